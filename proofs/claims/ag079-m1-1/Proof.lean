import JvmDerived
import JvmDerived.Pilot.@@N@@Statement
import JvmDerived.Pilot.@@N@@Code
set_option linter.unusedVariables false
set_option linter.unusedSimpArgs false
namespace Jvm.Pilot.@@N@@
open Jvm Jvm.ClassFile Sem Op Lib Jvm.Free Jvm.Stand Jvm.LawKit Jvm.RoadKit Bundle Jvm.Pilot.@@N@@.Jvm.D
abbrev own_At (p : Program) (e : Env) (below : List Frame) (m : MethodId) (T : State) (pc : Nat) (ls : Array Slot) (st : List Value) (t : State) : Prop := Steps p.tables e below (T.setTop (mkF m pc ls st)) t
abbrev own_En (p : Program) (e : Env) (below : List Frame) (m : MethodId) (T : State) (a : Array Value) (n : Nat) (t : State) : Prop := Steps p.tables e below (T.setTop (entryFrame m a n)) t
theorem own_w {a0 : Array Value} {Z : State} (hw : ∀ d ∈ tables_1, d.before a0 Z = true) (i : Nat) {d : Jvm.Cond} (h : tables_1[i]? = some d) : d.before a0 Z = true := hw d (List.mem_of_getElem? h)
theorem own_eqI {t : Term} {k : Int32} {args : Array Value} {s : State} (h : (Jvm.Cond.eq t (.int k)).value args s none s [] = some true) : t.eval args s none [] s = some (.int k) := by
  have e : (Term.int k).eval args s none [] s = some (.int k) := rfl
  simp only [Cond.value, e] at h
  cases ht : t.eval args s none [] s with
  | none => simp [ht] at h
  | some x => cases x <;> simp [ht] at h ⊢; exact h
theorem own_neI {t : Term} {k z : Int32} {args : Array Value} {s : State} (e : t.eval args s none [] s = some (.int z)) (h : (Jvm.Cond.not (Jvm.Cond.eq t (.int k))).value args s none s [] = some true) : ¬ (z = k) := by
  have q := not_v h
  have e2 : (Term.int k).eval args s none [] s = some (.int k) := rfl
  simp only [Cond.value, e, e2, Bool.not_true, Option.some.injEq, decide_eq_false_iff_not] at q
  exact q
theorem own_neR {t u : Term} {a b : Addr} {args : Array Value} {s : State} (ea : t.eval args s none [] s = some (.ref a)) (eb : u.eval args s none [] s = some (.ref b)) (h : (Jvm.Cond.not (Jvm.Cond.eq t u)).value args s none s [] = some true) : ¬ (a = b) := by
  have q := not_v h
  rw [eq_R ea eb rfl rfl] at q
  intro e
  rw [e] at q
  simp at q
theorem own_eqJ {t : Term} {k : Int64} {args : Array Value} {s : State} (h : (Jvm.Cond.eq t (.long k)).value args s none s [] = some true) : t.eval args s none [] s = some (.long k) := by
  have e : (Term.long k).eval args s none [] s = some (.long k) := rfl
  simp only [Cond.value, e] at h
  cases ht : t.eval args s none [] s with
  | none => simp [ht] at h
  | some x => cases x <;> simp [ht] at h ⊢; exact h
theorem own_len {t : Term} {n : Int32} {a : Addr} {cl : Cell} {ty : FieldType} {args : Array Value} {s : State} (ev : t.eval args s none [] s = some (.ref a)) (A : Arr s s.heap a cl ty) (h : (Jvm.Cond.eq (.length t) (.int n)).value args s none s [] = some true) : cl.slots.size < 2 ^ 31 ∧ cl.slots.size.toInt32 = n := by
  have q := own_eqI h
  have hA := A.fin (Vm.Alike.refl _)
  simp only [Term.eval, ev, hA, Option.bind_eq_bind, Option.bind_some] at q
  split at q
  · rename_i hl
    exact ⟨hl, Value.int.inj (Option.some.inj q)⟩
  · cases q
theorem own_elem {t : Term} {j : Int32} {a : Addr} {v : Value} {cl : Cell} {ty : FieldType} {args : Array Value} {s : State} (ev : t.eval args s none [] s = some (.ref a)) (A : Arr s s.heap a cl ty) (h : (Term.elem t (.int j)).eval args s none [] s = some v) (i : Nat) (hi : j.toNatClampNeg = i) : cl.slots[i]? = some v := by
  have q := (elem_in h ev (rfl : (Term.int j).eval args s none [] s = some (.int j)) A.1).2
  rw [hi] at q; exact q
/-- an array as it stood at the start, that may be cloned -/
def own_Cln (Z : State) (h : Heap) (a : Addr) (ty : FieldType) (n : Int32) (vs : List Value) (d : Value) : Prop := ∃ c : Cell, Arr Z h a c ty ∧ FitC Z c ∧ c.slots.size = n.toNatClampNeg ∧ ¬ n < 0 ∧ Has c vs d ∧ ∀ i, i < c.slots.size → fits ty (vs.getD i d) = true
theorem own_Cln.ext {Z : State} {h h' : Heap} {a : Addr} {ty : FieldType} {n : Int32} {vs : List Value} {d : Value} (F : own_Cln Z h a ty n vs d) (E : Ext h h') : own_Cln Z h' a ty n vs d := by
  obtain ⟨c, A, r⟩ := F; exact ⟨c, A.ext E, r⟩
theorem own_Cln.start {Z : State} {a : Addr} {cl : Cell} {ty : FieldType} {z : Int32} {vs : List Value} {dv : Value} (hf : Fit Z) (A : Arr Z Z.heap a cl ty) (q : cl.slots.size < 2 ^ 31 ∧ cl.slots.size.toInt32 = z) (hz : ¬ z < 0) (hl : z.toNatClampNeg = vs.length) (H : HasL cl 0 vs) : own_Cln Z Z.heap a ty z vs dv := by
  have S : cl.slots.size = z.toNatClampNeg := by rw [← q.2]; simp only [Int32.toNatClampNeg, len_toInt q.1]; rfl
  have H' : Has cl vs dv := fun j hj => by have := HasL.at (dv := dv) vs 0 H j (by rw [← hl, ← S]; exact hj); rwa [Nat.zero_add] at this
  refine ⟨cl, A, FitC.start hf A, S, hz, H', fun j hj => ?_⟩
  have e1 : (Nat.toInt32 j).toNatClampNeg = j := by simp only [Int32.toNatClampNeg, len_toInt (Nat.lt_trans hj q.1)]; rfl
  exact elem_fits (j := Nat.toInt32 j) hf A (idx_in hj q.1) (by rw [e1]; exact H' j hj)
theorem own_Cln.arv {Z : State} {h : Heap} {a : Addr} {ty : FieldType} {n : Int32} {vs : List Value} {d : Value} (F : own_Cln Z h a ty n vs d) : ∃ k, Arv Z h a k ty n vs d := by
  obtain ⟨c, A, -, r⟩ := F; exact ⟨c.cls, c, A, rfl, r⟩
theorem own_eqR {t u : Term} {b : Addr} {args : Array Value} {s : State} (h : (Jvm.Cond.eq t u).value args s none s [] = some true) (e : u.eval args s none [] s = some (.ref b)) : t.eval args s none [] s = some (.ref b) := by
  simp only [Cond.value, e] at h
  cases ht : t.eval args s none [] s with
  | none => simp [ht] at h
  | some x => cases x <;> simp [ht] at h ⊢; exact h
def EV (Z : State) (a__VALUES : Addr) (a_BAD_REQUEST : Addr) (a_UNAUTHORIZED : Addr) (a_NOT_FOUND : Addr) (a_METHOD_NOT_ALLOWED : Addr) (a_NOT_ACCEPTABLE : Addr) (a_UNSUPPORTED_MEDIA_TYPE : Addr) (a_INTERNAL_SERVER_ERROR : Addr) : Prop := Sta Z Z.heap "com/example/entitlement_ledger/entitlementledger/service/ErrorCode" "$VALUES" "[Lcom/example/entitlement_ledger/entitlementledger/service/ErrorCode;" (.ref a__VALUES) ∧ Exa Z Z.heap a__VALUES "[Lcom/example/entitlement_ledger/entitlementledger/service/ErrorCode;" ∧ Sta Z Z.heap "com/example/entitlement_ledger/entitlementledger/service/ErrorCode" "BAD_REQUEST" "Lcom/example/entitlement_ledger/entitlementledger/service/ErrorCode;" (.ref a_BAD_REQUEST) ∧ Exa Z Z.heap a_BAD_REQUEST "com/example/entitlement_ledger/entitlementledger/service/ErrorCode" ∧ Sta Z Z.heap "com/example/entitlement_ledger/entitlementledger/service/ErrorCode" "UNAUTHORIZED" "Lcom/example/entitlement_ledger/entitlementledger/service/ErrorCode;" (.ref a_UNAUTHORIZED) ∧ Exa Z Z.heap a_UNAUTHORIZED "com/example/entitlement_ledger/entitlementledger/service/ErrorCode" ∧ Sta Z Z.heap "com/example/entitlement_ledger/entitlementledger/service/ErrorCode" "NOT_FOUND" "Lcom/example/entitlement_ledger/entitlementledger/service/ErrorCode;" (.ref a_NOT_FOUND) ∧ Exa Z Z.heap a_NOT_FOUND "com/example/entitlement_ledger/entitlementledger/service/ErrorCode" ∧ Sta Z Z.heap "com/example/entitlement_ledger/entitlementledger/service/ErrorCode" "METHOD_NOT_ALLOWED" "Lcom/example/entitlement_ledger/entitlementledger/service/ErrorCode;" (.ref a_METHOD_NOT_ALLOWED) ∧ Exa Z Z.heap a_METHOD_NOT_ALLOWED "com/example/entitlement_ledger/entitlementledger/service/ErrorCode" ∧ Sta Z Z.heap "com/example/entitlement_ledger/entitlementledger/service/ErrorCode" "NOT_ACCEPTABLE" "Lcom/example/entitlement_ledger/entitlementledger/service/ErrorCode;" (.ref a_NOT_ACCEPTABLE) ∧ Exa Z Z.heap a_NOT_ACCEPTABLE "com/example/entitlement_ledger/entitlementledger/service/ErrorCode" ∧ Sta Z Z.heap "com/example/entitlement_ledger/entitlementledger/service/ErrorCode" "UNSUPPORTED_MEDIA_TYPE" "Lcom/example/entitlement_ledger/entitlementledger/service/ErrorCode;" (.ref a_UNSUPPORTED_MEDIA_TYPE) ∧ Exa Z Z.heap a_UNSUPPORTED_MEDIA_TYPE "com/example/entitlement_ledger/entitlementledger/service/ErrorCode" ∧ Sta Z Z.heap "com/example/entitlement_ledger/entitlementledger/service/ErrorCode" "INTERNAL_SERVER_ERROR" "Lcom/example/entitlement_ledger/entitlementledger/service/ErrorCode;" (.ref a_INTERNAL_SERVER_ERROR) ∧ Exa Z Z.heap a_INTERNAL_SERVER_ERROR "com/example/entitlement_ledger/entitlementledger/service/ErrorCode" ∧ Fld Z Z.heap a_BAD_REQUEST "com/example/entitlement_ledger/entitlementledger/service/ErrorCode" "httpStatus" "I" (.int (400 : Int32)) ∧ Fld Z Z.heap a_UNAUTHORIZED "com/example/entitlement_ledger/entitlementledger/service/ErrorCode" "httpStatus" "I" (.int (401 : Int32)) ∧ Fld Z Z.heap a_NOT_FOUND "com/example/entitlement_ledger/entitlementledger/service/ErrorCode" "httpStatus" "I" (.int (404 : Int32)) ∧ Fld Z Z.heap a_METHOD_NOT_ALLOWED "com/example/entitlement_ledger/entitlementledger/service/ErrorCode" "httpStatus" "I" (.int (405 : Int32)) ∧ Fld Z Z.heap a_NOT_ACCEPTABLE "com/example/entitlement_ledger/entitlementledger/service/ErrorCode" "httpStatus" "I" (.int (406 : Int32)) ∧ Fld Z Z.heap a_UNSUPPORTED_MEDIA_TYPE "com/example/entitlement_ledger/entitlementledger/service/ErrorCode" "httpStatus" "I" (.int (415 : Int32)) ∧ Fld Z Z.heap a_INTERNAL_SERVER_ERROR "com/example/entitlement_ledger/entitlementledger/service/ErrorCode" "httpStatus" "I" (.int (500 : Int32)) ∧ own_Cln Z Z.heap a__VALUES (.object "com/example/entitlement_ledger/entitlementledger/service/ErrorCode") (7 : Int32) [(.ref a_BAD_REQUEST), (.ref a_UNAUTHORIZED), (.ref a_NOT_FOUND), (.ref a_METHOD_NOT_ALLOWED), (.ref a_NOT_ACCEPTABLE), (.ref a_UNSUPPORTED_MEDIA_TYPE), (.ref a_INTERNAL_SERVER_ERROR)] .null
def own_sel (k : Int32) (a_BAD_REQUEST : Addr) (a_UNAUTHORIZED : Addr) (a_NOT_FOUND : Addr) (a_METHOD_NOT_ALLOWED : Addr) (a_NOT_ACCEPTABLE : Addr) (a_UNSUPPORTED_MEDIA_TYPE : Addr) (a_INTERNAL_SERVER_ERROR : Addr) : Addr := if k = (400 : Int32) then a_BAD_REQUEST else if k = (401 : Int32) then a_UNAUTHORIZED else if k = (404 : Int32) then a_NOT_FOUND else if k = (405 : Int32) then a_METHOD_NOT_ALLOWED else if k = (406 : Int32) then a_NOT_ACCEPTABLE else if k = (415 : Int32) then a_UNSUPPORTED_MEDIA_TYPE else if k = (500 : Int32) then a_INTERNAL_SERVER_ERROR else if k < (500 : Int32) then a_BAD_REQUEST else a_INTERNAL_SERVER_ERROR
theorem ef_vals (m : MethodId)   : entryFrame m #[] 0 = mkF m 0 #[] [] := by first | (simp [entryFrame, mkF, argsToLocals, Value.category]; done) | rfl
theorem d_prog_17_method_1_code_0 : decode prog_17_method_1_code 0 = .ok (.getstatic 25, 3) := by decide +kernel
theorem d_prog_17_method_1_code_3 : decode prog_17_method_1_code 3 = .ok (.invokevirtual 29, 3) := by decide +kernel
theorem d_prog_17_method_1_code_6 : decode prog_17_method_1_code 6 = .ok (.checkcast 30, 3) := by decide +kernel
theorem d_prog_17_method_1_code_9 : decode prog_17_method_1_code 9 = .ok (.areturn, 1) := by decide +kernel
theorem pn_com_example_entitlement_ledger_entitlementledger_service_ErrorCode : plainName "com/example/entitlement_ledger/entitlementledger/service/ErrorCode" = true := by first | (simp [plainName, overriddenIn]; done) | decide +kernel
abbrev own_m0 : MethodName := ⟨"com/example/entitlement_ledger/entitlementledger/service/ErrorCode", "values", "()[Lcom/example/entitlement_ledger/entitlementledger/service/ErrorCode;"⟩
def Q_vals (Z : State) (a__VALUES : Addr) (a_BAD_REQUEST : Addr) (a_UNAUTHORIZED : Addr) (a_NOT_FOUND : Addr) (a_METHOD_NOT_ALLOWED : Addr) (a_NOT_ACCEPTABLE : Addr) (a_UNSUPPORTED_MEDIA_TYPE : Addr) (a_INTERNAL_SERVER_ERROR : Addr) (h0 : Heap) (n0 : Nat) (v : Option Value) (h : Heap) (L : List Loc) : Prop := ∃ (b : Addr) (k : ClassId), v = some (.ref b) ∧ Fr n0 L ∧ Old Z n0 h ∧ n0 ≤ b ∧ Ext h0 h ∧ Arv Z h b k (.object "com/example/entitlement_ledger/entitlementledger/service/ErrorCode") (7 : Int32) [(.ref a_BAD_REQUEST), (.ref a_UNAUTHORIZED), (.ref a_NOT_FOUND), (.ref a_METHOD_NOT_ALLOWED), (.ref a_NOT_ACCEPTABLE), (.ref a_UNSUPPORTED_MEDIA_TYPE), (.ref a_INTERNAL_SERVER_ERROR)] .null
set_option maxRecDepth 65536 in
set_option maxHeartbeats 40000000 in
theorem rm_vals (l : Launch) (Z : State) (a0 : Array Value) (hw : ∀ d ∈ tables_1, d.before a0 Z = true) (ws : List Jvm.Cond) (a__VALUES : Addr) (a_BAD_REQUEST : Addr) (a_UNAUTHORIZED : Addr) (a_NOT_FOUND : Addr) (a_METHOD_NOT_ALLOWED : Addr) (a_NOT_ACCEPTABLE : Addr) (a_UNSUPPORTED_MEDIA_TYPE : Addr) (a_INTERNAL_SERVER_ERROR : Addr) (h0 : Heap) (n0 : Nat) (O0 : Old Z n0 h0) (hE : EV Z a__VALUES a_BAD_REQUEST a_UNAUTHORIZED a_NOT_FOUND a_METHOD_NOT_ALLOWED a_NOT_ACCEPTABLE a_UNSUPPORTED_MEDIA_TYPE a_INTERNAL_SERVER_ERROR) :
    MetFree l own_m0 (head1 (Jvm.Cond.code own_m0 prog_17_method_1_code 0 (some (.array (.object "com/example/entitlement_ledger/entitlementledger/service/ErrorCode"))) :: ws) ({ frames := 1, cells := 1, slots := 7, locals := 14 } : Room)) (fun a U => a = #[] ∧ Z.Warmed39 U.vm ∧ U.heap = h0) (fun _ _ _ _ _ => True) (fun _ U o U' => ∃ v L, o = .returned v ∧ Q_vals Z a__VALUES a_BAD_REQUEST a_UNAUTHORIZED a_NOT_FOUND a_METHOD_NOT_ALLOWED a_NOT_ACCEPTABLE a_UNSUPPORTED_MEDIA_TYPE a_INTERNAL_SERVER_ERROR h0 n0 v U'.heap L ∧ FrameEnd U o U' L ({ frames := 1, cells := 1, slots := 7, locals := 14 } : Room).cells ({ frames := 1, cells := 1, slots := 7, locals := 14 } : Room).slots) := by
  refine MetFree.of_bodySF (plainFor_of_name pn_com_example_entitlement_ledger_entitlementledger_service_ErrorCode) hisR ?_
  intro p e s m args below meth c s₁ Bd hml0 hP hK
  obtain ⟨rfl, hZ, hh⟩ := hP
  have hx := Bd.exec
  have hby := Bd.bytes
  have hml : c.maxLocals = 0 := hml0
  have hown : s.vm.findClass "com/example/entitlement_ledger/entitlementledger/service/ErrorCode" = some m.cls := findClass_of_methodNamed Bd.named
  have hnm := (name_of_methodNamed Bd.named Bd.method).1
  have X0 : Stand p l e ({ frames := 1, cells := 1, slots := 7, locals := 14 } : Room) s m #[] below meth c s₁ [] 0 0 := Stand.of_body Bd
  have e0 : s₁.heap = h0 := by rw [← hh, Bd.state]; rfl
  have N0 := Fr.nil n0
  refine Classical.byContradiction fun hNG => ?_
  have K0 := Keep.refl h0 []
  have k0 : ∀ t, own_At p e below m s₁ 0 #[] [] t → own_En p e below m s₁ #[] 0 t := fun t k => castTop (ef_vals m  ) k
  obtain ⟨S__VALUES, E__VALUES, S_BAD_REQUEST, E_BAD_REQUEST, S_UNAUTHORIZED, E_UNAUTHORIZED, S_NOT_FOUND, E_NOT_FOUND, S_METHOD_NOT_ALLOWED, E_METHOD_NOT_ALLOWED, S_NOT_ACCEPTABLE, E_NOT_ACCEPTABLE, S_UNSUPPORTED_MEDIA_TYPE, E_UNSUPPORTED_MEDIA_TYPE, S_INTERNAL_SERVER_ERROR, E_INTERNAL_SERVER_ERROR, F_BAD_REQUEST_httpStatus, F_UNAUTHORIZED_httpStatus, F_NOT_FOUND_httpStatus, F_METHOD_NOT_ALLOWED_httpStatus, F_NOT_ACCEPTABLE_httpStatus, F_UNSUPPORTED_MEDIA_TYPE_httpStatus, F_INTERNAL_SERVER_ERROR_httpStatus, C__VALUES⟩ := (id hE : EV Z a__VALUES a_BAD_REQUEST a_UNAUTHORIZED a_NOT_FOUND a_METHOD_NOT_ALLOWED a_NOT_ACCEPTABLE a_UNSUPPORTED_MEDIA_TYPE a_INTERNAL_SERVER_ERROR)
  obtain ⟨T1, X1, e1, st1⟩ := getS2 X0 hx hZ hown (host := "") (Or.inl (own_w hw 8 rfl)) Via.refl e0 (S__VALUES.ext O0.2) (g := (mkF m 0 #[] [])) rfl (hb hby d_prog_17_method_1_code_0)
  obtain ⟨cl2, Ar2, Fc2, Sz2, Nn2, Hs2, Gf2⟩ := own_Cln.ext C__VALUES O0.2
  obtain ⟨T3, h3, X3, e3, E3, A3, Ex3, st3⟩ := cloneA X1 hx hZ hown (own_w hw 10 rfl) (own_w hw 11 rfl) (own_w hw 15 rfl) (own_w hw 13 rfl) (own_w hw 14 rfl) (own_w hw 16 rfl) e1 Ar2 (E__VALUES.ext O0.2) Fc2 (g := (mkF m 3 #[] [(.ref a__VALUES)])) rfl (by rw [hml]; rfl) rfl (hb hby d_prog_17_method_1_code_3) (by decide) (W := 0) (cap := 7) (by show 2 * 0 + _ ≤ _; exact Nat.le_of_eq rfl) (by decide) (by rw [Sz2]; decide) (by decide) (by decide)
  obtain ⟨b3, g3⟩ : ∃ z, z = h0.size := ⟨_, rfl⟩
  rw [← g3] at A3 Ex3 st3
  have O3 := O0.ext E3
  have g_b3 : n0 ≤ b3 := Nat.le_trans (Nat.le_of_eq O0.1.symm) (Nat.le_trans O0.2.1 (Nat.le_of_eq g3.symm))
  have s_b3 : h0.size ≤ b3 := Nat.le_trans K0.1 (Nat.le_of_eq g3.symm)
  have K3 := K0.ext E3
  have V3 : Arv Z h3 b3 cl2.cls (.object "com/example/entitlement_ledger/entitlementledger/service/ErrorCode") (7 : Int32) [(.ref a_BAD_REQUEST), (.ref a_UNAUTHORIZED), (.ref a_NOT_FOUND), (.ref a_METHOD_NOT_ALLOWED), (.ref a_NOT_ACCEPTABLE), (.ref a_UNSUPPORTED_MEDIA_TYPE), (.ref a_INTERNAL_SERVER_ERROR)] .null := ⟨cloneOf cl2, A3, rfl, Sz2, Nn2, Hs2, Gf2⟩
  have lt_b3 := V3.lt
  obtain ⟨T4, X4, e4, st4⟩ := castY X3 hx hZ hown (own_w hw 25 rfl) e3 (Ins.self Ex3) (g := (mkF m 6 #[] [(.ref b3)])) rfl rfl (hb hby d_prog_17_method_1_code_6)
  have k5 : ∀ t, own_At p e below m T4 9 #[] [(.ref b3)] t → own_En p e below m s₁ #[] 0 t := by
    intro t k
    refine k0 t ?_
    refine st1 _ ?_
    show own_At p e below m T1 3 #[] [(.ref a__VALUES)] t
    refine st3 _ ?_
    show own_At p e below m T3 6 #[] [(.ref b3)] t
    refine st4 _ ?_
    show own_At p e below m T4 9 #[] [(.ref b3)] t
    exact k
  obtain ⟨fs, hr, hrun, hended, hW, hsame⟩ := X4.leave (v := some (.ref b3)) (fun h => by rw [Bd.returns] at h; cases h)
  refine hNG ⟨_, _, k5 _ ?_, hrun, hended, _, _, rfl, ?_, ⟨_, rfl⟩, hW, hsame.mono (by decide) (by decide)⟩
  · exact retOut X4 hx (t := (.array (.object "com/example/entitlement_ledger/entitlementledger/service/ErrorCode"))) Bd.returns rfl (Or.inr (Or.inr (Or.inr (Or.inr ⟨rfl, rfl, rfl⟩)))) (hb hby d_prog_17_method_1_code_9) hr
  · show Q_vals Z a__VALUES a_BAD_REQUEST a_UNAUTHORIZED a_NOT_FOUND a_METHOD_NOT_ALLOWED a_NOT_ACCEPTABLE a_UNSUPPORTED_MEDIA_TYPE a_INTERNAL_SERVER_ERROR h0 n0 _ T4.heap _
    rw [e4]
    exact ⟨_, _, rfl, N0, O3, g_b3, E3, V3⟩
theorem ef_fs (m : MethodId) (x0 : Int32)  : entryFrame m #[(.int x0)] 5 = mkF m 0 #[.val (.int x0), .unset, .unset, .unset, .unset] [] := by first | (simp [entryFrame, mkF, argsToLocals, Value.category]; done) | rfl
theorem d_prog_17_method_7_code_0 : decode prog_17_method_7_code 0 = .ok (.invokestatic 55, 3) := by decide +kernel
theorem pd____Lcom_example_entitlement_ledger_entitlementledger_service_ErrorCode_ : parseMethodDescriptor "()[Lcom/example/entitlement_ledger/entitlementledger/service/ErrorCode;" = some ⟨[], some (.array (.object "com/example/entitlement_ledger/entitlementledger/service/ErrorCode"))⟩ := by decide +kernel
theorem d_prog_17_method_7_code_3 : decode prog_17_method_7_code 3 = .ok (.astore_n 1, 1) := by decide +kernel
theorem d_prog_17_method_7_code_4 : decode prog_17_method_7_code 4 = .ok (.aload_n 1, 1) := by decide +kernel
theorem d_prog_17_method_7_code_5 : decode prog_17_method_7_code 5 = .ok (.arraylength, 1) := by decide +kernel
theorem d_prog_17_method_7_code_6 : decode prog_17_method_7_code 6 = .ok (.istore_n 2, 1) := by decide +kernel
theorem d_prog_17_method_7_code_7 : decode prog_17_method_7_code 7 = .ok (.iconst 0, 1) := by decide +kernel
theorem d_prog_17_method_7_code_8 : decode prog_17_method_7_code 8 = .ok (.istore_n 3, 1) := by decide +kernel
theorem d_prog_17_method_7_code_9 : decode prog_17_method_7_code 9 = .ok (.iload_n 3, 1) := by decide +kernel
theorem d_prog_17_method_7_code_10 : decode prog_17_method_7_code 10 = .ok (.iload_n 2, 1) := by decide +kernel
theorem d_prog_17_method_7_code_11 : decode prog_17_method_7_code 11 = .ok (.if_icmp .ge 26, 3) := by decide +kernel
theorem d_prog_17_method_7_code_14 : decode prog_17_method_7_code 14 = .ok (.aload_n 1, 1) := by decide +kernel
theorem d_prog_17_method_7_code_15 : decode prog_17_method_7_code 15 = .ok (.iload_n 3, 1) := by decide +kernel
theorem d_prog_17_method_7_code_16 : decode prog_17_method_7_code 16 = .ok (.aaload, 1) := by decide +kernel
theorem d_prog_17_method_7_code_17 : decode prog_17_method_7_code 17 = .ok (.astore 4, 2) := by decide +kernel
theorem d_prog_17_method_7_code_19 : decode prog_17_method_7_code 19 = .ok (.aload 4, 2) := by decide +kernel
theorem d_prog_17_method_7_code_21 : decode prog_17_method_7_code 21 = .ok (.getfield 48, 3) := by decide +kernel
theorem d_prog_17_method_7_code_24 : decode prog_17_method_7_code 24 = .ok (.iload_n 0, 1) := by decide +kernel
theorem d_prog_17_method_7_code_25 : decode prog_17_method_7_code 25 = .ok (.if_icmp .ne 6, 3) := by decide +kernel
theorem d_prog_17_method_7_code_28 : decode prog_17_method_7_code 28 = .ok (.aload 4, 2) := by decide +kernel
theorem d_prog_17_method_7_code_30 : decode prog_17_method_7_code 30 = .ok (.areturn, 1) := by decide +kernel
theorem d_prog_17_method_7_code_31 : decode prog_17_method_7_code 31 = .ok (.iinc 3 1, 3) := by decide +kernel
theorem d_prog_17_method_7_code_34 : decode prog_17_method_7_code 34 = .ok (.goto (-25), 3) := by decide +kernel
theorem d_prog_17_method_7_code_37 : decode prog_17_method_7_code 37 = .ok (.iload_n 0, 1) := by decide +kernel
theorem d_prog_17_method_7_code_38 : decode prog_17_method_7_code 38 = .ok (.sipush 500, 3) := by decide +kernel
theorem d_prog_17_method_7_code_41 : decode prog_17_method_7_code 41 = .ok (.if_icmp .ge 9, 3) := by decide +kernel
theorem d_prog_17_method_7_code_44 : decode prog_17_method_7_code 44 = .ok (.getstatic 3, 3) := by decide +kernel
theorem d_prog_17_method_7_code_47 : decode prog_17_method_7_code 47 = .ok (.goto 6, 3) := by decide +kernel
theorem d_prog_17_method_7_code_53 : decode prog_17_method_7_code 53 = .ok (.areturn, 1) := by decide +kernel
theorem d_prog_17_method_7_code_50 : decode prog_17_method_7_code 50 = .ok (.getstatic 22, 3) := by decide +kernel
abbrev own_m1 : MethodName := ⟨"com/example/entitlement_ledger/entitlementledger/service/ErrorCode", "forStatus", "(I)Lcom/example/entitlement_ledger/entitlementledger/service/ErrorCode;"⟩
def Q_fs (Z : State) (p0 : Int32) (a__VALUES : Addr) (a_BAD_REQUEST : Addr) (a_UNAUTHORIZED : Addr) (a_NOT_FOUND : Addr) (a_METHOD_NOT_ALLOWED : Addr) (a_NOT_ACCEPTABLE : Addr) (a_UNSUPPORTED_MEDIA_TYPE : Addr) (a_INTERNAL_SERVER_ERROR : Addr) (h0 : Heap) (n0 : Nat) (v : Option Value) (h : Heap) (L : List Loc) : Prop := v = some (.ref (own_sel p0 a_BAD_REQUEST a_UNAUTHORIZED a_NOT_FOUND a_METHOD_NOT_ALLOWED a_NOT_ACCEPTABLE a_UNSUPPORTED_MEDIA_TYPE a_INTERNAL_SERVER_ERROR)) ∧ Fr n0 L ∧ Old Z n0 h
set_option maxRecDepth 65536 in
set_option maxHeartbeats 40000000 in
theorem rm_fs (l : Launch) (Z : State) (a0 : Array Value) (hw : ∀ d ∈ tables_1, d.before a0 Z = true) (ws : List Jvm.Cond) (p0 : Int32) (a__VALUES : Addr) (a_BAD_REQUEST : Addr) (a_UNAUTHORIZED : Addr) (a_NOT_FOUND : Addr) (a_METHOD_NOT_ALLOWED : Addr) (a_NOT_ACCEPTABLE : Addr) (a_UNSUPPORTED_MEDIA_TYPE : Addr) (a_INTERNAL_SERVER_ERROR : Addr) (h0 : Heap) (n0 : Nat) (O0 : Old Z n0 h0) (hE : EV Z a__VALUES a_BAD_REQUEST a_UNAUTHORIZED a_NOT_FOUND a_METHOD_NOT_ALLOWED a_NOT_ACCEPTABLE a_UNSUPPORTED_MEDIA_TYPE a_INTERNAL_SERVER_ERROR) :
    MetFree l own_m1 (head1 (Jvm.Cond.code own_m1 prog_17_method_7_code 5 (some (.object "com/example/entitlement_ledger/entitlementledger/service/ErrorCode")) :: ws) ({ frames := 2, cells := 1, slots := 7, locals := 25 } : Room)) (fun a U => a = #[(.int p0)] ∧ Z.Warmed39 U.vm ∧ U.heap = h0) (fun _ _ _ _ _ => True) (fun _ U o U' => ∃ v L, o = .returned v ∧ Q_fs Z p0 a__VALUES a_BAD_REQUEST a_UNAUTHORIZED a_NOT_FOUND a_METHOD_NOT_ALLOWED a_NOT_ACCEPTABLE a_UNSUPPORTED_MEDIA_TYPE a_INTERNAL_SERVER_ERROR h0 n0 v U'.heap L ∧ FrameEnd U o U' L ({ frames := 2, cells := 1, slots := 7, locals := 25 } : Room).cells ({ frames := 2, cells := 1, slots := 7, locals := 25 } : Room).slots) := by
  refine MetFree.of_bodySF (plainFor_of_name pn_com_example_entitlement_ledger_entitlementledger_service_ErrorCode) hisR ?_
  intro p e s m args below meth c s₁ Bd hml0 hP hK
  obtain ⟨rfl, hZ, hh⟩ := hP
  have hx := Bd.exec
  have hby := Bd.bytes
  have hml : c.maxLocals = 5 := hml0
  have hown : s.vm.findClass "com/example/entitlement_ledger/entitlementledger/service/ErrorCode" = some m.cls := findClass_of_methodNamed Bd.named
  have hnm := (name_of_methodNamed Bd.named Bd.method).1
  have X0 : Stand p l e ({ frames := 2, cells := 1, slots := 7, locals := 25 } : Room) s m #[(.int p0)] below meth c s₁ [] 0 0 := Stand.of_body Bd
  have e0 : s₁.heap = h0 := by rw [← hh, Bd.state]; rfl
  have N0 := Fr.nil n0
  refine Classical.byContradiction fun hNG => ?_
  have K0 := Keep.refl h0 []
  have k0 : ∀ t, own_At p e below m s₁ 0 #[.val (.int p0), .unset, .unset, .unset, .unset] [] t → own_En p e below m s₁ #[(.int p0)] 5 t := fun t k => castTop (ef_fs m p0 ) k
  obtain ⟨S__VALUES, E__VALUES, S_BAD_REQUEST, E_BAD_REQUEST, S_UNAUTHORIZED, E_UNAUTHORIZED, S_NOT_FOUND, E_NOT_FOUND, S_METHOD_NOT_ALLOWED, E_METHOD_NOT_ALLOWED, S_NOT_ACCEPTABLE, E_NOT_ACCEPTABLE, S_UNSUPPORTED_MEDIA_TYPE, E_UNSUPPORTED_MEDIA_TYPE, S_INTERNAL_SERVER_ERROR, E_INTERNAL_SERVER_ERROR, F_BAD_REQUEST_httpStatus, F_UNAUTHORIZED_httpStatus, F_NOT_FOUND_httpStatus, F_METHOD_NOT_ALLOWED_httpStatus, F_NOT_ACCEPTABLE_httpStatus, F_UNSUPPORTED_MEDIA_TYPE_httpStatus, F_INTERNAL_SERVER_ERROR_httpStatus, C__VALUES⟩ := (id hE : EV Z a__VALUES a_BAD_REQUEST a_UNAUTHORIZED a_NOT_FOUND a_METHOD_NOT_ALLOWED a_NOT_ACCEPTABLE a_UNSUPPORTED_MEDIA_TYPE a_INTERNAL_SERVER_ERROR)
  obtain ⟨_, _, ⟨T1, L1, k1, n1⟩, -, X1, ⟨Lc1, hQ1, l1, y1, z1⟩, st1⟩ := Jvm.LawKit.callS X0 hx (y := own_m0) hown (mvT hZ (own_w hw 5 rfl)) (mvT hZ (own_w hw 6 rfl)) (mvT hZ (own_w hw 3 rfl)) (mvT hZ (own_w hw 7 rfl)) (by decide) (backOf (W := 0) (rm_vals l Z a0 hw [] _ _ _ _ _ _ _ _ h0 n0 O0 hE) hZ (own_w hw 7 rfl) (own_w hw 3 rfl) (by decide) (by decide)) (g := (mkF m 0 #[.val (.int p0), .unset, .unset, .unset, .unset] [])) rfl (by rw [hml]; rfl) (argsL := []) (rest := []) (lenOf pd____Lcom_example_entitlement_ledger_entitlementledger_service_ErrorCode_ rfl) rfl (by show 2 * 0 + _ ≤ _; exact Nat.le_of_eq rfl) (hb hby d_prog_17_method_7_code_0) (fun _ _ => ⟨rfl, e0, (by decide : 0 + 1 ≤ _), (by decide : 0 + 7 ≤ _)⟩)
  dsimp only [Pt.U, Pt.locs, Pt.cells, Pt.slots] at X1 l1 y1 z1 st1 hQ1
  subst l1 y1 z1
  obtain ⟨b1, kb1, rfl, N1q, O1, gb1, E1, V1⟩ := hQ1
  have N1 := Fr.app N0 N1q
  obtain ⟨cl2, Ar2, q2, Sz2, Nn2, Hs2, Gf2⟩ := id V1
  obtain ⟨cl3, Ar3, q3, Sz3, Nn3, Hs3, Gf3⟩ := id V1
  have hin4 : ¬ ((0 : Int32) < 0 ∨ cl3.slots.size ≤ ((0 : Int32)).toNatClampNeg) := inb_of Sz3 ⟨by decide, by decide⟩
  have hat5 : cl3.slots[((0 : Int32)).toNatClampNeg]? = some (.ref a_BAD_REQUEST) := Hs3.at hin4 rfl
  obtain ⟨T6, X6, e6, st6⟩ := getF X1 hx hZ hown (host := "") (Or.inl (own_w hw 27 rfl)) Via.refl rfl (F_BAD_REQUEST_httpStatus.ext O1.2) (g := (mkF m 21 #[.val (.int p0), .val (.ref b1), .val (.int (7 : Int32)), .val (.int (0 : Int32)), .val (.ref a_BAD_REQUEST)] [(.ref a_BAD_REQUEST)])) rfl rfl (hb hby d_prog_17_method_7_code_21)
  have k7 : ∀ t, own_At p e below m T6 25 #[.val (.int p0), .val (.ref b1), .val (.int (7 : Int32)), .val (.int (0 : Int32)), .val (.ref a_BAD_REQUEST)] [(.int p0), (.int (400 : Int32))] t → own_En p e below m s₁ #[(.int p0)] 5 t := by
    intro t k
    refine k0 t ?_
    refine st1 _ ?_
    show own_At p e below m T1 3 #[.val (.int p0), .unset, .unset, .unset, .unset] [(.ref b1)] t
    refine XS.astoreN X1.here hx rfl (hb hby d_prog_17_method_7_code_3) rfl rfl (l' := #[.val (.int p0), .val (.ref b1), .unset, .unset, .unset]) rfl ?_
    show own_At p e below m T1 4 #[.val (.int p0), .val (.ref b1), .unset, .unset, .unset] [] t
    refine XS.aloadN X1.here hx rfl (hb hby d_prog_17_method_7_code_4) rfl rfl ?_
    show own_At p e below m T1 5 #[.val (.int p0), .val (.ref b1), .unset, .unset, .unset] [(.ref b1)] t
    refine X1.arraylength hx (by exact Ar2.1) (State.isArrayOf_alike hZ.alike Ar2.2.1) (g := (mkF m 5 #[.val (.int p0), .val (.ref b1), .unset, .unset, .unset] [(.ref b1)])) rfl rfl (hb hby d_prog_17_method_7_code_5) _ ?_
    rw [len_of Sz2 Nn2]
    show own_At p e below m T1 6 #[.val (.int p0), .val (.ref b1), .unset, .unset, .unset] [(.int (7 : Int32))] t
    refine XS.istoreN X1.here hx rfl (hb hby d_prog_17_method_7_code_6) rfl (l' := #[.val (.int p0), .val (.ref b1), .val (.int (7 : Int32)), .unset, .unset]) rfl ?_
    show own_At p e below m T1 7 #[.val (.int p0), .val (.ref b1), .val (.int (7 : Int32)), .unset, .unset] [] t
    refine XS.iconst X1.here hx rfl (hb hby d_prog_17_method_7_code_7) ?_
    show own_At p e below m T1 8 #[.val (.int p0), .val (.ref b1), .val (.int (7 : Int32)), .unset, .unset] [(.int (0 : Int32))] t
    refine XS.istoreN X1.here hx rfl (hb hby d_prog_17_method_7_code_8) rfl (l' := #[.val (.int p0), .val (.ref b1), .val (.int (7 : Int32)), .val (.int (0 : Int32)), .unset]) rfl ?_
    show own_At p e below m T1 9 #[.val (.int p0), .val (.ref b1), .val (.int (7 : Int32)), .val (.int (0 : Int32)), .unset] [] t
    refine XS.iloadN X1.here hx rfl (hb hby d_prog_17_method_7_code_9) rfl ?_
    show own_At p e below m T1 10 #[.val (.int p0), .val (.ref b1), .val (.int (7 : Int32)), .val (.int (0 : Int32)), .unset] [(.int (0 : Int32))] t
    refine XS.iloadN X1.here hx rfl (hb hby d_prog_17_method_7_code_10) rfl ?_
    show own_At p e below m T1 11 #[.val (.int p0), .val (.ref b1), .val (.int (7 : Int32)), .val (.int (0 : Int32)), .unset] [(.int (7 : Int32)), (.int (0 : Int32))] t
    refine XS.icmpNo X1.here hx rfl (hb hby d_prog_17_method_7_code_11) rfl (tlt (by decide : (0 : Int32) < (7 : Int32))).2.1 ?_
    show own_At p e below m T1 14 #[.val (.int p0), .val (.ref b1), .val (.int (7 : Int32)), .val (.int (0 : Int32)), .unset] [] t
    refine XS.aloadN X1.here hx rfl (hb hby d_prog_17_method_7_code_14) rfl rfl ?_
    show own_At p e below m T1 15 #[.val (.int p0), .val (.ref b1), .val (.int (7 : Int32)), .val (.int (0 : Int32)), .unset] [(.ref b1)] t
    refine XS.iloadN X1.here hx rfl (hb hby d_prog_17_method_7_code_15) rfl ?_
    show own_At p e below m T1 16 #[.val (.int p0), .val (.ref b1), .val (.int (7 : Int32)), .val (.int (0 : Int32)), .unset] [(.int (0 : Int32)), (.ref b1)] t
    refine X1.aaload hx (j := (0 : Int32)) (v := (.ref a_BAD_REQUEST)) (by exact Ar3.1) (State.isArrayOf_alike hZ.alike Ar3.2.1) rfl Ar3.2.2 hin4 hat5 (g := (mkF m 16 #[.val (.int p0), .val (.ref b1), .val (.int (7 : Int32)), .val (.int (0 : Int32)), .unset] [(.int (0 : Int32)), (.ref b1)])) rfl rfl (hb hby d_prog_17_method_7_code_16) _ ?_
    show own_At p e below m T1 17 #[.val (.int p0), .val (.ref b1), .val (.int (7 : Int32)), .val (.int (0 : Int32)), .unset] [(.ref a_BAD_REQUEST)] t
    refine XS.astore X1.here hx rfl (hb hby d_prog_17_method_7_code_17) rfl rfl (l' := #[.val (.int p0), .val (.ref b1), .val (.int (7 : Int32)), .val (.int (0 : Int32)), .val (.ref a_BAD_REQUEST)]) rfl ?_
    show own_At p e below m T1 19 #[.val (.int p0), .val (.ref b1), .val (.int (7 : Int32)), .val (.int (0 : Int32)), .val (.ref a_BAD_REQUEST)] [] t
    refine XS.aload X1.here hx rfl (hb hby d_prog_17_method_7_code_19) rfl rfl ?_
    show own_At p e below m T1 21 #[.val (.int p0), .val (.ref b1), .val (.int (7 : Int32)), .val (.int (0 : Int32)), .val (.ref a_BAD_REQUEST)] [(.ref a_BAD_REQUEST)] t
    refine st6 _ ?_
    show own_At p e below m T6 24 #[.val (.int p0), .val (.ref b1), .val (.int (7 : Int32)), .val (.int (0 : Int32)), .val (.ref a_BAD_REQUEST)] [(.int (400 : Int32))] t
    refine XS.iloadN X6.here hx rfl (hb hby d_prog_17_method_7_code_24) rfl ?_
    show own_At p e below m T6 25 #[.val (.int p0), .val (.ref b1), .val (.int (7 : Int32)), .val (.int (0 : Int32)), .val (.ref a_BAD_REQUEST)] [(.int p0), (.int (400 : Int32))] t
    exact k
  by_cases hc8 : p0 = (400 : Int32)
  · have k9 : ∀ t, own_At p e below m T6 30 #[.val (.int p0), .val (.ref b1), .val (.int (7 : Int32)), .val (.int (0 : Int32)), .val (.ref a_BAD_REQUEST)] [(.ref a_BAD_REQUEST)] t → own_En p e below m s₁ #[(.int p0)] 5 t := by
      intro t k
      refine k7 t ?_
      refine XS.icmpNo X6.here hx rfl (hb hby d_prog_17_method_7_code_25) rfl (teq (hc8).symm).2 ?_
      show own_At p e below m T6 28 #[.val (.int p0), .val (.ref b1), .val (.int (7 : Int32)), .val (.int (0 : Int32)), .val (.ref a_BAD_REQUEST)] [] t
      refine XS.aload X6.here hx rfl (hb hby d_prog_17_method_7_code_28) rfl rfl ?_
      show own_At p e below m T6 30 #[.val (.int p0), .val (.ref b1), .val (.int (7 : Int32)), .val (.int (0 : Int32)), .val (.ref a_BAD_REQUEST)] [(.ref a_BAD_REQUEST)] t
      exact k
    obtain ⟨fs, hr, hrun, hended, hW, hsame⟩ := X6.leave (v := some (.ref a_BAD_REQUEST)) (fun h => by rw [Bd.returns] at h; cases h)
    refine hNG ⟨_, _, k9 _ ?_, hrun, hended, _, _, rfl, ?_, ⟨_, rfl⟩, hW, hsame.mono (by decide) (by decide)⟩
    · exact retOut X6 hx (t := (.object "com/example/entitlement_ledger/entitlementledger/service/ErrorCode")) Bd.returns rfl (Or.inr (Or.inr (Or.inr (Or.inr ⟨rfl, rfl, rfl⟩)))) (hb hby d_prog_17_method_7_code_30) hr
    · show Q_fs Z p0 a__VALUES a_BAD_REQUEST a_UNAUTHORIZED a_NOT_FOUND a_METHOD_NOT_ALLOWED a_NOT_ACCEPTABLE a_UNSUPPORTED_MEDIA_TYPE a_INTERNAL_SERVER_ERROR h0 n0 _ T6.heap _
      rw [e6]
      refine ⟨?_, N1, ?_⟩
      · show some (Value.ref a_BAD_REQUEST) = some (Value.ref (own_sel p0 a_BAD_REQUEST a_UNAUTHORIZED a_NOT_FOUND a_METHOD_NOT_ALLOWED a_NOT_ACCEPTABLE a_UNSUPPORTED_MEDIA_TYPE a_INTERNAL_SERVER_ERROR))
        unfold own_sel
        rw [if_pos hc8]
      · exact O1
  · obtain ⟨cl10, Ar10, q10, Sz10, Nn10, Hs10, Gf10⟩ := id V1
    have hin11 : ¬ ((1 : Int32) < 0 ∨ cl10.slots.size ≤ ((1 : Int32)).toNatClampNeg) := inb_of Sz10 ⟨by decide, by decide⟩
    have hat12 : cl10.slots[((1 : Int32)).toNatClampNeg]? = some (.ref a_UNAUTHORIZED) := Hs10.at hin11 rfl
    obtain ⟨T13, X13, e13, st13⟩ := getF X6 hx hZ hown (host := "") (Or.inl (own_w hw 27 rfl)) Via.refl e6 (F_UNAUTHORIZED_httpStatus.ext O1.2) (g := (mkF m 21 #[.val (.int p0), .val (.ref b1), .val (.int (7 : Int32)), .val (.int (1 : Int32)), .val (.ref a_UNAUTHORIZED)] [(.ref a_UNAUTHORIZED)])) rfl rfl (hb hby d_prog_17_method_7_code_21)
    have k14 : ∀ t, own_At p e below m T13 25 #[.val (.int p0), .val (.ref b1), .val (.int (7 : Int32)), .val (.int (1 : Int32)), .val (.ref a_UNAUTHORIZED)] [(.int p0), (.int (401 : Int32))] t → own_En p e below m s₁ #[(.int p0)] 5 t := by
      intro t k
      refine k7 t ?_
      refine XS.icmpYes X6.here hx rfl (pc0 := 25) (pc' := 31) rfl (hb hby d_prog_17_method_7_code_25) rfl (feq (fun q => hc8 q.symm)).2 (by decide) (by decide) ?_
      show own_At p e below m T6 31 #[.val (.int p0), .val (.ref b1), .val (.int (7 : Int32)), .val (.int (0 : Int32)), .val (.ref a_BAD_REQUEST)] [] t
      refine XS.iinc X6.here hx rfl (hb hby d_prog_17_method_7_code_31) rfl (l' := #[.val (.int p0), .val (.ref b1), .val (.int (7 : Int32)), .val (.int ((0 : Int32) + (1 : Int32))), .val (.ref a_BAD_REQUEST)]) rfl ?_
      show own_At p e below m T6 34 #[.val (.int p0), .val (.ref b1), .val (.int (7 : Int32)), .val (.int ((0 : Int32) + (1 : Int32))), .val (.ref a_BAD_REQUEST)] [] t
      rw [show ((0 : Int32) + (1 : Int32)) = (1 : Int32) from by decide]
      show own_At p e below m T6 34 #[.val (.int p0), .val (.ref b1), .val (.int (7 : Int32)), .val (.int (1 : Int32)), .val (.ref a_BAD_REQUEST)] [] t
      refine XS.goto X6.here hx rfl (pc0 := 34) (pc' := 9) rfl (hb hby d_prog_17_method_7_code_34) (by decide) (by decide) ?_
      show own_At p e below m T6 9 #[.val (.int p0), .val (.ref b1), .val (.int (7 : Int32)), .val (.int (1 : Int32)), .val (.ref a_BAD_REQUEST)] [] t
      refine XS.iloadN X6.here hx rfl (hb hby d_prog_17_method_7_code_9) rfl ?_
      show own_At p e below m T6 10 #[.val (.int p0), .val (.ref b1), .val (.int (7 : Int32)), .val (.int (1 : Int32)), .val (.ref a_BAD_REQUEST)] [(.int (1 : Int32))] t
      refine XS.iloadN X6.here hx rfl (hb hby d_prog_17_method_7_code_10) rfl ?_
      show own_At p e below m T6 11 #[.val (.int p0), .val (.ref b1), .val (.int (7 : Int32)), .val (.int (1 : Int32)), .val (.ref a_BAD_REQUEST)] [(.int (7 : Int32)), (.int (1 : Int32))] t
      refine XS.icmpNo X6.here hx rfl (hb hby d_prog_17_method_7_code_11) rfl (tlt (by decide : (1 : Int32) < (7 : Int32))).2.1 ?_
      show own_At p e below m T6 14 #[.val (.int p0), .val (.ref b1), .val (.int (7 : Int32)), .val (.int (1 : Int32)), .val (.ref a_BAD_REQUEST)] [] t
      refine XS.aloadN X6.here hx rfl (hb hby d_prog_17_method_7_code_14) rfl rfl ?_
      show own_At p e below m T6 15 #[.val (.int p0), .val (.ref b1), .val (.int (7 : Int32)), .val (.int (1 : Int32)), .val (.ref a_BAD_REQUEST)] [(.ref b1)] t
      refine XS.iloadN X6.here hx rfl (hb hby d_prog_17_method_7_code_15) rfl ?_
      show own_At p e below m T6 16 #[.val (.int p0), .val (.ref b1), .val (.int (7 : Int32)), .val (.int (1 : Int32)), .val (.ref a_BAD_REQUEST)] [(.int (1 : Int32)), (.ref b1)] t
      refine X6.aaload hx (j := (1 : Int32)) (v := (.ref a_UNAUTHORIZED)) (by rw [e6]; exact Ar10.1) (State.isArrayOf_alike hZ.alike Ar10.2.1) rfl Ar10.2.2 hin11 hat12 (g := (mkF m 16 #[.val (.int p0), .val (.ref b1), .val (.int (7 : Int32)), .val (.int (1 : Int32)), .val (.ref a_BAD_REQUEST)] [(.int (1 : Int32)), (.ref b1)])) rfl rfl (hb hby d_prog_17_method_7_code_16) _ ?_
      show own_At p e below m T6 17 #[.val (.int p0), .val (.ref b1), .val (.int (7 : Int32)), .val (.int (1 : Int32)), .val (.ref a_BAD_REQUEST)] [(.ref a_UNAUTHORIZED)] t
      refine XS.astore X6.here hx rfl (hb hby d_prog_17_method_7_code_17) rfl rfl (l' := #[.val (.int p0), .val (.ref b1), .val (.int (7 : Int32)), .val (.int (1 : Int32)), .val (.ref a_UNAUTHORIZED)]) rfl ?_
      show own_At p e below m T6 19 #[.val (.int p0), .val (.ref b1), .val (.int (7 : Int32)), .val (.int (1 : Int32)), .val (.ref a_UNAUTHORIZED)] [] t
      refine XS.aload X6.here hx rfl (hb hby d_prog_17_method_7_code_19) rfl rfl ?_
      show own_At p e below m T6 21 #[.val (.int p0), .val (.ref b1), .val (.int (7 : Int32)), .val (.int (1 : Int32)), .val (.ref a_UNAUTHORIZED)] [(.ref a_UNAUTHORIZED)] t
      refine st13 _ ?_
      show own_At p e below m T13 24 #[.val (.int p0), .val (.ref b1), .val (.int (7 : Int32)), .val (.int (1 : Int32)), .val (.ref a_UNAUTHORIZED)] [(.int (401 : Int32))] t
      refine XS.iloadN X13.here hx rfl (hb hby d_prog_17_method_7_code_24) rfl ?_
      show own_At p e below m T13 25 #[.val (.int p0), .val (.ref b1), .val (.int (7 : Int32)), .val (.int (1 : Int32)), .val (.ref a_UNAUTHORIZED)] [(.int p0), (.int (401 : Int32))] t
      exact k
    by_cases hc15 : p0 = (401 : Int32)
    · have k16 : ∀ t, own_At p e below m T13 30 #[.val (.int p0), .val (.ref b1), .val (.int (7 : Int32)), .val (.int (1 : Int32)), .val (.ref a_UNAUTHORIZED)] [(.ref a_UNAUTHORIZED)] t → own_En p e below m s₁ #[(.int p0)] 5 t := by
        intro t k
        refine k14 t ?_
        refine XS.icmpNo X13.here hx rfl (hb hby d_prog_17_method_7_code_25) rfl (teq (hc15).symm).2 ?_
        show own_At p e below m T13 28 #[.val (.int p0), .val (.ref b1), .val (.int (7 : Int32)), .val (.int (1 : Int32)), .val (.ref a_UNAUTHORIZED)] [] t
        refine XS.aload X13.here hx rfl (hb hby d_prog_17_method_7_code_28) rfl rfl ?_
        show own_At p e below m T13 30 #[.val (.int p0), .val (.ref b1), .val (.int (7 : Int32)), .val (.int (1 : Int32)), .val (.ref a_UNAUTHORIZED)] [(.ref a_UNAUTHORIZED)] t
        exact k
      obtain ⟨fs, hr, hrun, hended, hW, hsame⟩ := X13.leave (v := some (.ref a_UNAUTHORIZED)) (fun h => by rw [Bd.returns] at h; cases h)
      refine hNG ⟨_, _, k16 _ ?_, hrun, hended, _, _, rfl, ?_, ⟨_, rfl⟩, hW, hsame.mono (by decide) (by decide)⟩
      · exact retOut X13 hx (t := (.object "com/example/entitlement_ledger/entitlementledger/service/ErrorCode")) Bd.returns rfl (Or.inr (Or.inr (Or.inr (Or.inr ⟨rfl, rfl, rfl⟩)))) (hb hby d_prog_17_method_7_code_30) hr
      · show Q_fs Z p0 a__VALUES a_BAD_REQUEST a_UNAUTHORIZED a_NOT_FOUND a_METHOD_NOT_ALLOWED a_NOT_ACCEPTABLE a_UNSUPPORTED_MEDIA_TYPE a_INTERNAL_SERVER_ERROR h0 n0 _ T13.heap _
        rw [e13]
        refine ⟨?_, N1, ?_⟩
        · show some (Value.ref a_UNAUTHORIZED) = some (Value.ref (own_sel p0 a_BAD_REQUEST a_UNAUTHORIZED a_NOT_FOUND a_METHOD_NOT_ALLOWED a_NOT_ACCEPTABLE a_UNSUPPORTED_MEDIA_TYPE a_INTERNAL_SERVER_ERROR))
          unfold own_sel
          rw [if_neg hc8, if_pos hc15]
        · exact O1
    · obtain ⟨cl17, Ar17, q17, Sz17, Nn17, Hs17, Gf17⟩ := id V1
      have hin18 : ¬ ((2 : Int32) < 0 ∨ cl17.slots.size ≤ ((2 : Int32)).toNatClampNeg) := inb_of Sz17 ⟨by decide, by decide⟩
      have hat19 : cl17.slots[((2 : Int32)).toNatClampNeg]? = some (.ref a_NOT_FOUND) := Hs17.at hin18 rfl
      obtain ⟨T20, X20, e20, st20⟩ := getF X13 hx hZ hown (host := "") (Or.inl (own_w hw 27 rfl)) Via.refl e13 (F_NOT_FOUND_httpStatus.ext O1.2) (g := (mkF m 21 #[.val (.int p0), .val (.ref b1), .val (.int (7 : Int32)), .val (.int (2 : Int32)), .val (.ref a_NOT_FOUND)] [(.ref a_NOT_FOUND)])) rfl rfl (hb hby d_prog_17_method_7_code_21)
      have k21 : ∀ t, own_At p e below m T20 25 #[.val (.int p0), .val (.ref b1), .val (.int (7 : Int32)), .val (.int (2 : Int32)), .val (.ref a_NOT_FOUND)] [(.int p0), (.int (404 : Int32))] t → own_En p e below m s₁ #[(.int p0)] 5 t := by
        intro t k
        refine k14 t ?_
        refine XS.icmpYes X13.here hx rfl (pc0 := 25) (pc' := 31) rfl (hb hby d_prog_17_method_7_code_25) rfl (feq (fun q => hc15 q.symm)).2 (by decide) (by decide) ?_
        show own_At p e below m T13 31 #[.val (.int p0), .val (.ref b1), .val (.int (7 : Int32)), .val (.int (1 : Int32)), .val (.ref a_UNAUTHORIZED)] [] t
        refine XS.iinc X13.here hx rfl (hb hby d_prog_17_method_7_code_31) rfl (l' := #[.val (.int p0), .val (.ref b1), .val (.int (7 : Int32)), .val (.int ((1 : Int32) + (1 : Int32))), .val (.ref a_UNAUTHORIZED)]) rfl ?_
        show own_At p e below m T13 34 #[.val (.int p0), .val (.ref b1), .val (.int (7 : Int32)), .val (.int ((1 : Int32) + (1 : Int32))), .val (.ref a_UNAUTHORIZED)] [] t
        rw [show ((1 : Int32) + (1 : Int32)) = (2 : Int32) from by decide]
        show own_At p e below m T13 34 #[.val (.int p0), .val (.ref b1), .val (.int (7 : Int32)), .val (.int (2 : Int32)), .val (.ref a_UNAUTHORIZED)] [] t
        refine XS.goto X13.here hx rfl (pc0 := 34) (pc' := 9) rfl (hb hby d_prog_17_method_7_code_34) (by decide) (by decide) ?_
        show own_At p e below m T13 9 #[.val (.int p0), .val (.ref b1), .val (.int (7 : Int32)), .val (.int (2 : Int32)), .val (.ref a_UNAUTHORIZED)] [] t
        refine XS.iloadN X13.here hx rfl (hb hby d_prog_17_method_7_code_9) rfl ?_
        show own_At p e below m T13 10 #[.val (.int p0), .val (.ref b1), .val (.int (7 : Int32)), .val (.int (2 : Int32)), .val (.ref a_UNAUTHORIZED)] [(.int (2 : Int32))] t
        refine XS.iloadN X13.here hx rfl (hb hby d_prog_17_method_7_code_10) rfl ?_
        show own_At p e below m T13 11 #[.val (.int p0), .val (.ref b1), .val (.int (7 : Int32)), .val (.int (2 : Int32)), .val (.ref a_UNAUTHORIZED)] [(.int (7 : Int32)), (.int (2 : Int32))] t
        refine XS.icmpNo X13.here hx rfl (hb hby d_prog_17_method_7_code_11) rfl (tlt (by decide : (2 : Int32) < (7 : Int32))).2.1 ?_
        show own_At p e below m T13 14 #[.val (.int p0), .val (.ref b1), .val (.int (7 : Int32)), .val (.int (2 : Int32)), .val (.ref a_UNAUTHORIZED)] [] t
        refine XS.aloadN X13.here hx rfl (hb hby d_prog_17_method_7_code_14) rfl rfl ?_
        show own_At p e below m T13 15 #[.val (.int p0), .val (.ref b1), .val (.int (7 : Int32)), .val (.int (2 : Int32)), .val (.ref a_UNAUTHORIZED)] [(.ref b1)] t
        refine XS.iloadN X13.here hx rfl (hb hby d_prog_17_method_7_code_15) rfl ?_
        show own_At p e below m T13 16 #[.val (.int p0), .val (.ref b1), .val (.int (7 : Int32)), .val (.int (2 : Int32)), .val (.ref a_UNAUTHORIZED)] [(.int (2 : Int32)), (.ref b1)] t
        refine X13.aaload hx (j := (2 : Int32)) (v := (.ref a_NOT_FOUND)) (by rw [e13]; exact Ar17.1) (State.isArrayOf_alike hZ.alike Ar17.2.1) rfl Ar17.2.2 hin18 hat19 (g := (mkF m 16 #[.val (.int p0), .val (.ref b1), .val (.int (7 : Int32)), .val (.int (2 : Int32)), .val (.ref a_UNAUTHORIZED)] [(.int (2 : Int32)), (.ref b1)])) rfl rfl (hb hby d_prog_17_method_7_code_16) _ ?_
        show own_At p e below m T13 17 #[.val (.int p0), .val (.ref b1), .val (.int (7 : Int32)), .val (.int (2 : Int32)), .val (.ref a_UNAUTHORIZED)] [(.ref a_NOT_FOUND)] t
        refine XS.astore X13.here hx rfl (hb hby d_prog_17_method_7_code_17) rfl rfl (l' := #[.val (.int p0), .val (.ref b1), .val (.int (7 : Int32)), .val (.int (2 : Int32)), .val (.ref a_NOT_FOUND)]) rfl ?_
        show own_At p e below m T13 19 #[.val (.int p0), .val (.ref b1), .val (.int (7 : Int32)), .val (.int (2 : Int32)), .val (.ref a_NOT_FOUND)] [] t
        refine XS.aload X13.here hx rfl (hb hby d_prog_17_method_7_code_19) rfl rfl ?_
        show own_At p e below m T13 21 #[.val (.int p0), .val (.ref b1), .val (.int (7 : Int32)), .val (.int (2 : Int32)), .val (.ref a_NOT_FOUND)] [(.ref a_NOT_FOUND)] t
        refine st20 _ ?_
        show own_At p e below m T20 24 #[.val (.int p0), .val (.ref b1), .val (.int (7 : Int32)), .val (.int (2 : Int32)), .val (.ref a_NOT_FOUND)] [(.int (404 : Int32))] t
        refine XS.iloadN X20.here hx rfl (hb hby d_prog_17_method_7_code_24) rfl ?_
        show own_At p e below m T20 25 #[.val (.int p0), .val (.ref b1), .val (.int (7 : Int32)), .val (.int (2 : Int32)), .val (.ref a_NOT_FOUND)] [(.int p0), (.int (404 : Int32))] t
        exact k
      by_cases hc22 : p0 = (404 : Int32)
      · have k23 : ∀ t, own_At p e below m T20 30 #[.val (.int p0), .val (.ref b1), .val (.int (7 : Int32)), .val (.int (2 : Int32)), .val (.ref a_NOT_FOUND)] [(.ref a_NOT_FOUND)] t → own_En p e below m s₁ #[(.int p0)] 5 t := by
          intro t k
          refine k21 t ?_
          refine XS.icmpNo X20.here hx rfl (hb hby d_prog_17_method_7_code_25) rfl (teq (hc22).symm).2 ?_
          show own_At p e below m T20 28 #[.val (.int p0), .val (.ref b1), .val (.int (7 : Int32)), .val (.int (2 : Int32)), .val (.ref a_NOT_FOUND)] [] t
          refine XS.aload X20.here hx rfl (hb hby d_prog_17_method_7_code_28) rfl rfl ?_
          show own_At p e below m T20 30 #[.val (.int p0), .val (.ref b1), .val (.int (7 : Int32)), .val (.int (2 : Int32)), .val (.ref a_NOT_FOUND)] [(.ref a_NOT_FOUND)] t
          exact k
        obtain ⟨fs, hr, hrun, hended, hW, hsame⟩ := X20.leave (v := some (.ref a_NOT_FOUND)) (fun h => by rw [Bd.returns] at h; cases h)
        refine hNG ⟨_, _, k23 _ ?_, hrun, hended, _, _, rfl, ?_, ⟨_, rfl⟩, hW, hsame.mono (by decide) (by decide)⟩
        · exact retOut X20 hx (t := (.object "com/example/entitlement_ledger/entitlementledger/service/ErrorCode")) Bd.returns rfl (Or.inr (Or.inr (Or.inr (Or.inr ⟨rfl, rfl, rfl⟩)))) (hb hby d_prog_17_method_7_code_30) hr
        · show Q_fs Z p0 a__VALUES a_BAD_REQUEST a_UNAUTHORIZED a_NOT_FOUND a_METHOD_NOT_ALLOWED a_NOT_ACCEPTABLE a_UNSUPPORTED_MEDIA_TYPE a_INTERNAL_SERVER_ERROR h0 n0 _ T20.heap _
          rw [e20]
          refine ⟨?_, N1, ?_⟩
          · show some (Value.ref a_NOT_FOUND) = some (Value.ref (own_sel p0 a_BAD_REQUEST a_UNAUTHORIZED a_NOT_FOUND a_METHOD_NOT_ALLOWED a_NOT_ACCEPTABLE a_UNSUPPORTED_MEDIA_TYPE a_INTERNAL_SERVER_ERROR))
            unfold own_sel
            rw [if_neg hc8, if_neg hc15, if_pos hc22]
          · exact O1
      · obtain ⟨cl24, Ar24, q24, Sz24, Nn24, Hs24, Gf24⟩ := id V1
        have hin25 : ¬ ((3 : Int32) < 0 ∨ cl24.slots.size ≤ ((3 : Int32)).toNatClampNeg) := inb_of Sz24 ⟨by decide, by decide⟩
        have hat26 : cl24.slots[((3 : Int32)).toNatClampNeg]? = some (.ref a_METHOD_NOT_ALLOWED) := Hs24.at hin25 rfl
        obtain ⟨T27, X27, e27, st27⟩ := getF X20 hx hZ hown (host := "") (Or.inl (own_w hw 27 rfl)) Via.refl e20 (F_METHOD_NOT_ALLOWED_httpStatus.ext O1.2) (g := (mkF m 21 #[.val (.int p0), .val (.ref b1), .val (.int (7 : Int32)), .val (.int (3 : Int32)), .val (.ref a_METHOD_NOT_ALLOWED)] [(.ref a_METHOD_NOT_ALLOWED)])) rfl rfl (hb hby d_prog_17_method_7_code_21)
        have k28 : ∀ t, own_At p e below m T27 25 #[.val (.int p0), .val (.ref b1), .val (.int (7 : Int32)), .val (.int (3 : Int32)), .val (.ref a_METHOD_NOT_ALLOWED)] [(.int p0), (.int (405 : Int32))] t → own_En p e below m s₁ #[(.int p0)] 5 t := by
          intro t k
          refine k21 t ?_
          refine XS.icmpYes X20.here hx rfl (pc0 := 25) (pc' := 31) rfl (hb hby d_prog_17_method_7_code_25) rfl (feq (fun q => hc22 q.symm)).2 (by decide) (by decide) ?_
          show own_At p e below m T20 31 #[.val (.int p0), .val (.ref b1), .val (.int (7 : Int32)), .val (.int (2 : Int32)), .val (.ref a_NOT_FOUND)] [] t
          refine XS.iinc X20.here hx rfl (hb hby d_prog_17_method_7_code_31) rfl (l' := #[.val (.int p0), .val (.ref b1), .val (.int (7 : Int32)), .val (.int ((2 : Int32) + (1 : Int32))), .val (.ref a_NOT_FOUND)]) rfl ?_
          show own_At p e below m T20 34 #[.val (.int p0), .val (.ref b1), .val (.int (7 : Int32)), .val (.int ((2 : Int32) + (1 : Int32))), .val (.ref a_NOT_FOUND)] [] t
          rw [show ((2 : Int32) + (1 : Int32)) = (3 : Int32) from by decide]
          show own_At p e below m T20 34 #[.val (.int p0), .val (.ref b1), .val (.int (7 : Int32)), .val (.int (3 : Int32)), .val (.ref a_NOT_FOUND)] [] t
          refine XS.goto X20.here hx rfl (pc0 := 34) (pc' := 9) rfl (hb hby d_prog_17_method_7_code_34) (by decide) (by decide) ?_
          show own_At p e below m T20 9 #[.val (.int p0), .val (.ref b1), .val (.int (7 : Int32)), .val (.int (3 : Int32)), .val (.ref a_NOT_FOUND)] [] t
          refine XS.iloadN X20.here hx rfl (hb hby d_prog_17_method_7_code_9) rfl ?_
          show own_At p e below m T20 10 #[.val (.int p0), .val (.ref b1), .val (.int (7 : Int32)), .val (.int (3 : Int32)), .val (.ref a_NOT_FOUND)] [(.int (3 : Int32))] t
          refine XS.iloadN X20.here hx rfl (hb hby d_prog_17_method_7_code_10) rfl ?_
          show own_At p e below m T20 11 #[.val (.int p0), .val (.ref b1), .val (.int (7 : Int32)), .val (.int (3 : Int32)), .val (.ref a_NOT_FOUND)] [(.int (7 : Int32)), (.int (3 : Int32))] t
          refine XS.icmpNo X20.here hx rfl (hb hby d_prog_17_method_7_code_11) rfl (tlt (by decide : (3 : Int32) < (7 : Int32))).2.1 ?_
          show own_At p e below m T20 14 #[.val (.int p0), .val (.ref b1), .val (.int (7 : Int32)), .val (.int (3 : Int32)), .val (.ref a_NOT_FOUND)] [] t
          refine XS.aloadN X20.here hx rfl (hb hby d_prog_17_method_7_code_14) rfl rfl ?_
          show own_At p e below m T20 15 #[.val (.int p0), .val (.ref b1), .val (.int (7 : Int32)), .val (.int (3 : Int32)), .val (.ref a_NOT_FOUND)] [(.ref b1)] t
          refine XS.iloadN X20.here hx rfl (hb hby d_prog_17_method_7_code_15) rfl ?_
          show own_At p e below m T20 16 #[.val (.int p0), .val (.ref b1), .val (.int (7 : Int32)), .val (.int (3 : Int32)), .val (.ref a_NOT_FOUND)] [(.int (3 : Int32)), (.ref b1)] t
          refine X20.aaload hx (j := (3 : Int32)) (v := (.ref a_METHOD_NOT_ALLOWED)) (by rw [e20]; exact Ar24.1) (State.isArrayOf_alike hZ.alike Ar24.2.1) rfl Ar24.2.2 hin25 hat26 (g := (mkF m 16 #[.val (.int p0), .val (.ref b1), .val (.int (7 : Int32)), .val (.int (3 : Int32)), .val (.ref a_NOT_FOUND)] [(.int (3 : Int32)), (.ref b1)])) rfl rfl (hb hby d_prog_17_method_7_code_16) _ ?_
          show own_At p e below m T20 17 #[.val (.int p0), .val (.ref b1), .val (.int (7 : Int32)), .val (.int (3 : Int32)), .val (.ref a_NOT_FOUND)] [(.ref a_METHOD_NOT_ALLOWED)] t
          refine XS.astore X20.here hx rfl (hb hby d_prog_17_method_7_code_17) rfl rfl (l' := #[.val (.int p0), .val (.ref b1), .val (.int (7 : Int32)), .val (.int (3 : Int32)), .val (.ref a_METHOD_NOT_ALLOWED)]) rfl ?_
          show own_At p e below m T20 19 #[.val (.int p0), .val (.ref b1), .val (.int (7 : Int32)), .val (.int (3 : Int32)), .val (.ref a_METHOD_NOT_ALLOWED)] [] t
          refine XS.aload X20.here hx rfl (hb hby d_prog_17_method_7_code_19) rfl rfl ?_
          show own_At p e below m T20 21 #[.val (.int p0), .val (.ref b1), .val (.int (7 : Int32)), .val (.int (3 : Int32)), .val (.ref a_METHOD_NOT_ALLOWED)] [(.ref a_METHOD_NOT_ALLOWED)] t
          refine st27 _ ?_
          show own_At p e below m T27 24 #[.val (.int p0), .val (.ref b1), .val (.int (7 : Int32)), .val (.int (3 : Int32)), .val (.ref a_METHOD_NOT_ALLOWED)] [(.int (405 : Int32))] t
          refine XS.iloadN X27.here hx rfl (hb hby d_prog_17_method_7_code_24) rfl ?_
          show own_At p e below m T27 25 #[.val (.int p0), .val (.ref b1), .val (.int (7 : Int32)), .val (.int (3 : Int32)), .val (.ref a_METHOD_NOT_ALLOWED)] [(.int p0), (.int (405 : Int32))] t
          exact k
        by_cases hc29 : p0 = (405 : Int32)
        · have k30 : ∀ t, own_At p e below m T27 30 #[.val (.int p0), .val (.ref b1), .val (.int (7 : Int32)), .val (.int (3 : Int32)), .val (.ref a_METHOD_NOT_ALLOWED)] [(.ref a_METHOD_NOT_ALLOWED)] t → own_En p e below m s₁ #[(.int p0)] 5 t := by
            intro t k
            refine k28 t ?_
            refine XS.icmpNo X27.here hx rfl (hb hby d_prog_17_method_7_code_25) rfl (teq (hc29).symm).2 ?_
            show own_At p e below m T27 28 #[.val (.int p0), .val (.ref b1), .val (.int (7 : Int32)), .val (.int (3 : Int32)), .val (.ref a_METHOD_NOT_ALLOWED)] [] t
            refine XS.aload X27.here hx rfl (hb hby d_prog_17_method_7_code_28) rfl rfl ?_
            show own_At p e below m T27 30 #[.val (.int p0), .val (.ref b1), .val (.int (7 : Int32)), .val (.int (3 : Int32)), .val (.ref a_METHOD_NOT_ALLOWED)] [(.ref a_METHOD_NOT_ALLOWED)] t
            exact k
          obtain ⟨fs, hr, hrun, hended, hW, hsame⟩ := X27.leave (v := some (.ref a_METHOD_NOT_ALLOWED)) (fun h => by rw [Bd.returns] at h; cases h)
          refine hNG ⟨_, _, k30 _ ?_, hrun, hended, _, _, rfl, ?_, ⟨_, rfl⟩, hW, hsame.mono (by decide) (by decide)⟩
          · exact retOut X27 hx (t := (.object "com/example/entitlement_ledger/entitlementledger/service/ErrorCode")) Bd.returns rfl (Or.inr (Or.inr (Or.inr (Or.inr ⟨rfl, rfl, rfl⟩)))) (hb hby d_prog_17_method_7_code_30) hr
          · show Q_fs Z p0 a__VALUES a_BAD_REQUEST a_UNAUTHORIZED a_NOT_FOUND a_METHOD_NOT_ALLOWED a_NOT_ACCEPTABLE a_UNSUPPORTED_MEDIA_TYPE a_INTERNAL_SERVER_ERROR h0 n0 _ T27.heap _
            rw [e27]
            refine ⟨?_, N1, ?_⟩
            · show some (Value.ref a_METHOD_NOT_ALLOWED) = some (Value.ref (own_sel p0 a_BAD_REQUEST a_UNAUTHORIZED a_NOT_FOUND a_METHOD_NOT_ALLOWED a_NOT_ACCEPTABLE a_UNSUPPORTED_MEDIA_TYPE a_INTERNAL_SERVER_ERROR))
              unfold own_sel
              rw [if_neg hc8, if_neg hc15, if_neg hc22, if_pos hc29]
            · exact O1
        · obtain ⟨cl31, Ar31, q31, Sz31, Nn31, Hs31, Gf31⟩ := id V1
          have hin32 : ¬ ((4 : Int32) < 0 ∨ cl31.slots.size ≤ ((4 : Int32)).toNatClampNeg) := inb_of Sz31 ⟨by decide, by decide⟩
          have hat33 : cl31.slots[((4 : Int32)).toNatClampNeg]? = some (.ref a_NOT_ACCEPTABLE) := Hs31.at hin32 rfl
          obtain ⟨T34, X34, e34, st34⟩ := getF X27 hx hZ hown (host := "") (Or.inl (own_w hw 27 rfl)) Via.refl e27 (F_NOT_ACCEPTABLE_httpStatus.ext O1.2) (g := (mkF m 21 #[.val (.int p0), .val (.ref b1), .val (.int (7 : Int32)), .val (.int (4 : Int32)), .val (.ref a_NOT_ACCEPTABLE)] [(.ref a_NOT_ACCEPTABLE)])) rfl rfl (hb hby d_prog_17_method_7_code_21)
          have k35 : ∀ t, own_At p e below m T34 25 #[.val (.int p0), .val (.ref b1), .val (.int (7 : Int32)), .val (.int (4 : Int32)), .val (.ref a_NOT_ACCEPTABLE)] [(.int p0), (.int (406 : Int32))] t → own_En p e below m s₁ #[(.int p0)] 5 t := by
            intro t k
            refine k28 t ?_
            refine XS.icmpYes X27.here hx rfl (pc0 := 25) (pc' := 31) rfl (hb hby d_prog_17_method_7_code_25) rfl (feq (fun q => hc29 q.symm)).2 (by decide) (by decide) ?_
            show own_At p e below m T27 31 #[.val (.int p0), .val (.ref b1), .val (.int (7 : Int32)), .val (.int (3 : Int32)), .val (.ref a_METHOD_NOT_ALLOWED)] [] t
            refine XS.iinc X27.here hx rfl (hb hby d_prog_17_method_7_code_31) rfl (l' := #[.val (.int p0), .val (.ref b1), .val (.int (7 : Int32)), .val (.int ((3 : Int32) + (1 : Int32))), .val (.ref a_METHOD_NOT_ALLOWED)]) rfl ?_
            show own_At p e below m T27 34 #[.val (.int p0), .val (.ref b1), .val (.int (7 : Int32)), .val (.int ((3 : Int32) + (1 : Int32))), .val (.ref a_METHOD_NOT_ALLOWED)] [] t
            rw [show ((3 : Int32) + (1 : Int32)) = (4 : Int32) from by decide]
            show own_At p e below m T27 34 #[.val (.int p0), .val (.ref b1), .val (.int (7 : Int32)), .val (.int (4 : Int32)), .val (.ref a_METHOD_NOT_ALLOWED)] [] t
            refine XS.goto X27.here hx rfl (pc0 := 34) (pc' := 9) rfl (hb hby d_prog_17_method_7_code_34) (by decide) (by decide) ?_
            show own_At p e below m T27 9 #[.val (.int p0), .val (.ref b1), .val (.int (7 : Int32)), .val (.int (4 : Int32)), .val (.ref a_METHOD_NOT_ALLOWED)] [] t
            refine XS.iloadN X27.here hx rfl (hb hby d_prog_17_method_7_code_9) rfl ?_
            show own_At p e below m T27 10 #[.val (.int p0), .val (.ref b1), .val (.int (7 : Int32)), .val (.int (4 : Int32)), .val (.ref a_METHOD_NOT_ALLOWED)] [(.int (4 : Int32))] t
            refine XS.iloadN X27.here hx rfl (hb hby d_prog_17_method_7_code_10) rfl ?_
            show own_At p e below m T27 11 #[.val (.int p0), .val (.ref b1), .val (.int (7 : Int32)), .val (.int (4 : Int32)), .val (.ref a_METHOD_NOT_ALLOWED)] [(.int (7 : Int32)), (.int (4 : Int32))] t
            refine XS.icmpNo X27.here hx rfl (hb hby d_prog_17_method_7_code_11) rfl (tlt (by decide : (4 : Int32) < (7 : Int32))).2.1 ?_
            show own_At p e below m T27 14 #[.val (.int p0), .val (.ref b1), .val (.int (7 : Int32)), .val (.int (4 : Int32)), .val (.ref a_METHOD_NOT_ALLOWED)] [] t
            refine XS.aloadN X27.here hx rfl (hb hby d_prog_17_method_7_code_14) rfl rfl ?_
            show own_At p e below m T27 15 #[.val (.int p0), .val (.ref b1), .val (.int (7 : Int32)), .val (.int (4 : Int32)), .val (.ref a_METHOD_NOT_ALLOWED)] [(.ref b1)] t
            refine XS.iloadN X27.here hx rfl (hb hby d_prog_17_method_7_code_15) rfl ?_
            show own_At p e below m T27 16 #[.val (.int p0), .val (.ref b1), .val (.int (7 : Int32)), .val (.int (4 : Int32)), .val (.ref a_METHOD_NOT_ALLOWED)] [(.int (4 : Int32)), (.ref b1)] t
            refine X27.aaload hx (j := (4 : Int32)) (v := (.ref a_NOT_ACCEPTABLE)) (by rw [e27]; exact Ar31.1) (State.isArrayOf_alike hZ.alike Ar31.2.1) rfl Ar31.2.2 hin32 hat33 (g := (mkF m 16 #[.val (.int p0), .val (.ref b1), .val (.int (7 : Int32)), .val (.int (4 : Int32)), .val (.ref a_METHOD_NOT_ALLOWED)] [(.int (4 : Int32)), (.ref b1)])) rfl rfl (hb hby d_prog_17_method_7_code_16) _ ?_
            show own_At p e below m T27 17 #[.val (.int p0), .val (.ref b1), .val (.int (7 : Int32)), .val (.int (4 : Int32)), .val (.ref a_METHOD_NOT_ALLOWED)] [(.ref a_NOT_ACCEPTABLE)] t
            refine XS.astore X27.here hx rfl (hb hby d_prog_17_method_7_code_17) rfl rfl (l' := #[.val (.int p0), .val (.ref b1), .val (.int (7 : Int32)), .val (.int (4 : Int32)), .val (.ref a_NOT_ACCEPTABLE)]) rfl ?_
            show own_At p e below m T27 19 #[.val (.int p0), .val (.ref b1), .val (.int (7 : Int32)), .val (.int (4 : Int32)), .val (.ref a_NOT_ACCEPTABLE)] [] t
            refine XS.aload X27.here hx rfl (hb hby d_prog_17_method_7_code_19) rfl rfl ?_
            show own_At p e below m T27 21 #[.val (.int p0), .val (.ref b1), .val (.int (7 : Int32)), .val (.int (4 : Int32)), .val (.ref a_NOT_ACCEPTABLE)] [(.ref a_NOT_ACCEPTABLE)] t
            refine st34 _ ?_
            show own_At p e below m T34 24 #[.val (.int p0), .val (.ref b1), .val (.int (7 : Int32)), .val (.int (4 : Int32)), .val (.ref a_NOT_ACCEPTABLE)] [(.int (406 : Int32))] t
            refine XS.iloadN X34.here hx rfl (hb hby d_prog_17_method_7_code_24) rfl ?_
            show own_At p e below m T34 25 #[.val (.int p0), .val (.ref b1), .val (.int (7 : Int32)), .val (.int (4 : Int32)), .val (.ref a_NOT_ACCEPTABLE)] [(.int p0), (.int (406 : Int32))] t
            exact k
          by_cases hc36 : p0 = (406 : Int32)
          · have k37 : ∀ t, own_At p e below m T34 30 #[.val (.int p0), .val (.ref b1), .val (.int (7 : Int32)), .val (.int (4 : Int32)), .val (.ref a_NOT_ACCEPTABLE)] [(.ref a_NOT_ACCEPTABLE)] t → own_En p e below m s₁ #[(.int p0)] 5 t := by
              intro t k
              refine k35 t ?_
              refine XS.icmpNo X34.here hx rfl (hb hby d_prog_17_method_7_code_25) rfl (teq (hc36).symm).2 ?_
              show own_At p e below m T34 28 #[.val (.int p0), .val (.ref b1), .val (.int (7 : Int32)), .val (.int (4 : Int32)), .val (.ref a_NOT_ACCEPTABLE)] [] t
              refine XS.aload X34.here hx rfl (hb hby d_prog_17_method_7_code_28) rfl rfl ?_
              show own_At p e below m T34 30 #[.val (.int p0), .val (.ref b1), .val (.int (7 : Int32)), .val (.int (4 : Int32)), .val (.ref a_NOT_ACCEPTABLE)] [(.ref a_NOT_ACCEPTABLE)] t
              exact k
            obtain ⟨fs, hr, hrun, hended, hW, hsame⟩ := X34.leave (v := some (.ref a_NOT_ACCEPTABLE)) (fun h => by rw [Bd.returns] at h; cases h)
            refine hNG ⟨_, _, k37 _ ?_, hrun, hended, _, _, rfl, ?_, ⟨_, rfl⟩, hW, hsame.mono (by decide) (by decide)⟩
            · exact retOut X34 hx (t := (.object "com/example/entitlement_ledger/entitlementledger/service/ErrorCode")) Bd.returns rfl (Or.inr (Or.inr (Or.inr (Or.inr ⟨rfl, rfl, rfl⟩)))) (hb hby d_prog_17_method_7_code_30) hr
            · show Q_fs Z p0 a__VALUES a_BAD_REQUEST a_UNAUTHORIZED a_NOT_FOUND a_METHOD_NOT_ALLOWED a_NOT_ACCEPTABLE a_UNSUPPORTED_MEDIA_TYPE a_INTERNAL_SERVER_ERROR h0 n0 _ T34.heap _
              rw [e34]
              refine ⟨?_, N1, ?_⟩
              · show some (Value.ref a_NOT_ACCEPTABLE) = some (Value.ref (own_sel p0 a_BAD_REQUEST a_UNAUTHORIZED a_NOT_FOUND a_METHOD_NOT_ALLOWED a_NOT_ACCEPTABLE a_UNSUPPORTED_MEDIA_TYPE a_INTERNAL_SERVER_ERROR))
                unfold own_sel
                rw [if_neg hc8, if_neg hc15, if_neg hc22, if_neg hc29, if_pos hc36]
              · exact O1
          · obtain ⟨cl38, Ar38, q38, Sz38, Nn38, Hs38, Gf38⟩ := id V1
            have hin39 : ¬ ((5 : Int32) < 0 ∨ cl38.slots.size ≤ ((5 : Int32)).toNatClampNeg) := inb_of Sz38 ⟨by decide, by decide⟩
            have hat40 : cl38.slots[((5 : Int32)).toNatClampNeg]? = some (.ref a_UNSUPPORTED_MEDIA_TYPE) := Hs38.at hin39 rfl
            obtain ⟨T41, X41, e41, st41⟩ := getF X34 hx hZ hown (host := "") (Or.inl (own_w hw 27 rfl)) Via.refl e34 (F_UNSUPPORTED_MEDIA_TYPE_httpStatus.ext O1.2) (g := (mkF m 21 #[.val (.int p0), .val (.ref b1), .val (.int (7 : Int32)), .val (.int (5 : Int32)), .val (.ref a_UNSUPPORTED_MEDIA_TYPE)] [(.ref a_UNSUPPORTED_MEDIA_TYPE)])) rfl rfl (hb hby d_prog_17_method_7_code_21)
            have k42 : ∀ t, own_At p e below m T41 25 #[.val (.int p0), .val (.ref b1), .val (.int (7 : Int32)), .val (.int (5 : Int32)), .val (.ref a_UNSUPPORTED_MEDIA_TYPE)] [(.int p0), (.int (415 : Int32))] t → own_En p e below m s₁ #[(.int p0)] 5 t := by
              intro t k
              refine k35 t ?_
              refine XS.icmpYes X34.here hx rfl (pc0 := 25) (pc' := 31) rfl (hb hby d_prog_17_method_7_code_25) rfl (feq (fun q => hc36 q.symm)).2 (by decide) (by decide) ?_
              show own_At p e below m T34 31 #[.val (.int p0), .val (.ref b1), .val (.int (7 : Int32)), .val (.int (4 : Int32)), .val (.ref a_NOT_ACCEPTABLE)] [] t
              refine XS.iinc X34.here hx rfl (hb hby d_prog_17_method_7_code_31) rfl (l' := #[.val (.int p0), .val (.ref b1), .val (.int (7 : Int32)), .val (.int ((4 : Int32) + (1 : Int32))), .val (.ref a_NOT_ACCEPTABLE)]) rfl ?_
              show own_At p e below m T34 34 #[.val (.int p0), .val (.ref b1), .val (.int (7 : Int32)), .val (.int ((4 : Int32) + (1 : Int32))), .val (.ref a_NOT_ACCEPTABLE)] [] t
              rw [show ((4 : Int32) + (1 : Int32)) = (5 : Int32) from by decide]
              show own_At p e below m T34 34 #[.val (.int p0), .val (.ref b1), .val (.int (7 : Int32)), .val (.int (5 : Int32)), .val (.ref a_NOT_ACCEPTABLE)] [] t
              refine XS.goto X34.here hx rfl (pc0 := 34) (pc' := 9) rfl (hb hby d_prog_17_method_7_code_34) (by decide) (by decide) ?_
              show own_At p e below m T34 9 #[.val (.int p0), .val (.ref b1), .val (.int (7 : Int32)), .val (.int (5 : Int32)), .val (.ref a_NOT_ACCEPTABLE)] [] t
              refine XS.iloadN X34.here hx rfl (hb hby d_prog_17_method_7_code_9) rfl ?_
              show own_At p e below m T34 10 #[.val (.int p0), .val (.ref b1), .val (.int (7 : Int32)), .val (.int (5 : Int32)), .val (.ref a_NOT_ACCEPTABLE)] [(.int (5 : Int32))] t
              refine XS.iloadN X34.here hx rfl (hb hby d_prog_17_method_7_code_10) rfl ?_
              show own_At p e below m T34 11 #[.val (.int p0), .val (.ref b1), .val (.int (7 : Int32)), .val (.int (5 : Int32)), .val (.ref a_NOT_ACCEPTABLE)] [(.int (7 : Int32)), (.int (5 : Int32))] t
              refine XS.icmpNo X34.here hx rfl (hb hby d_prog_17_method_7_code_11) rfl (tlt (by decide : (5 : Int32) < (7 : Int32))).2.1 ?_
              show own_At p e below m T34 14 #[.val (.int p0), .val (.ref b1), .val (.int (7 : Int32)), .val (.int (5 : Int32)), .val (.ref a_NOT_ACCEPTABLE)] [] t
              refine XS.aloadN X34.here hx rfl (hb hby d_prog_17_method_7_code_14) rfl rfl ?_
              show own_At p e below m T34 15 #[.val (.int p0), .val (.ref b1), .val (.int (7 : Int32)), .val (.int (5 : Int32)), .val (.ref a_NOT_ACCEPTABLE)] [(.ref b1)] t
              refine XS.iloadN X34.here hx rfl (hb hby d_prog_17_method_7_code_15) rfl ?_
              show own_At p e below m T34 16 #[.val (.int p0), .val (.ref b1), .val (.int (7 : Int32)), .val (.int (5 : Int32)), .val (.ref a_NOT_ACCEPTABLE)] [(.int (5 : Int32)), (.ref b1)] t
              refine X34.aaload hx (j := (5 : Int32)) (v := (.ref a_UNSUPPORTED_MEDIA_TYPE)) (by rw [e34]; exact Ar38.1) (State.isArrayOf_alike hZ.alike Ar38.2.1) rfl Ar38.2.2 hin39 hat40 (g := (mkF m 16 #[.val (.int p0), .val (.ref b1), .val (.int (7 : Int32)), .val (.int (5 : Int32)), .val (.ref a_NOT_ACCEPTABLE)] [(.int (5 : Int32)), (.ref b1)])) rfl rfl (hb hby d_prog_17_method_7_code_16) _ ?_
              show own_At p e below m T34 17 #[.val (.int p0), .val (.ref b1), .val (.int (7 : Int32)), .val (.int (5 : Int32)), .val (.ref a_NOT_ACCEPTABLE)] [(.ref a_UNSUPPORTED_MEDIA_TYPE)] t
              refine XS.astore X34.here hx rfl (hb hby d_prog_17_method_7_code_17) rfl rfl (l' := #[.val (.int p0), .val (.ref b1), .val (.int (7 : Int32)), .val (.int (5 : Int32)), .val (.ref a_UNSUPPORTED_MEDIA_TYPE)]) rfl ?_
              show own_At p e below m T34 19 #[.val (.int p0), .val (.ref b1), .val (.int (7 : Int32)), .val (.int (5 : Int32)), .val (.ref a_UNSUPPORTED_MEDIA_TYPE)] [] t
              refine XS.aload X34.here hx rfl (hb hby d_prog_17_method_7_code_19) rfl rfl ?_
              show own_At p e below m T34 21 #[.val (.int p0), .val (.ref b1), .val (.int (7 : Int32)), .val (.int (5 : Int32)), .val (.ref a_UNSUPPORTED_MEDIA_TYPE)] [(.ref a_UNSUPPORTED_MEDIA_TYPE)] t
              refine st41 _ ?_
              show own_At p e below m T41 24 #[.val (.int p0), .val (.ref b1), .val (.int (7 : Int32)), .val (.int (5 : Int32)), .val (.ref a_UNSUPPORTED_MEDIA_TYPE)] [(.int (415 : Int32))] t
              refine XS.iloadN X41.here hx rfl (hb hby d_prog_17_method_7_code_24) rfl ?_
              show own_At p e below m T41 25 #[.val (.int p0), .val (.ref b1), .val (.int (7 : Int32)), .val (.int (5 : Int32)), .val (.ref a_UNSUPPORTED_MEDIA_TYPE)] [(.int p0), (.int (415 : Int32))] t
              exact k
            by_cases hc43 : p0 = (415 : Int32)
            · have k44 : ∀ t, own_At p e below m T41 30 #[.val (.int p0), .val (.ref b1), .val (.int (7 : Int32)), .val (.int (5 : Int32)), .val (.ref a_UNSUPPORTED_MEDIA_TYPE)] [(.ref a_UNSUPPORTED_MEDIA_TYPE)] t → own_En p e below m s₁ #[(.int p0)] 5 t := by
                intro t k
                refine k42 t ?_
                refine XS.icmpNo X41.here hx rfl (hb hby d_prog_17_method_7_code_25) rfl (teq (hc43).symm).2 ?_
                show own_At p e below m T41 28 #[.val (.int p0), .val (.ref b1), .val (.int (7 : Int32)), .val (.int (5 : Int32)), .val (.ref a_UNSUPPORTED_MEDIA_TYPE)] [] t
                refine XS.aload X41.here hx rfl (hb hby d_prog_17_method_7_code_28) rfl rfl ?_
                show own_At p e below m T41 30 #[.val (.int p0), .val (.ref b1), .val (.int (7 : Int32)), .val (.int (5 : Int32)), .val (.ref a_UNSUPPORTED_MEDIA_TYPE)] [(.ref a_UNSUPPORTED_MEDIA_TYPE)] t
                exact k
              obtain ⟨fs, hr, hrun, hended, hW, hsame⟩ := X41.leave (v := some (.ref a_UNSUPPORTED_MEDIA_TYPE)) (fun h => by rw [Bd.returns] at h; cases h)
              refine hNG ⟨_, _, k44 _ ?_, hrun, hended, _, _, rfl, ?_, ⟨_, rfl⟩, hW, hsame.mono (by decide) (by decide)⟩
              · exact retOut X41 hx (t := (.object "com/example/entitlement_ledger/entitlementledger/service/ErrorCode")) Bd.returns rfl (Or.inr (Or.inr (Or.inr (Or.inr ⟨rfl, rfl, rfl⟩)))) (hb hby d_prog_17_method_7_code_30) hr
              · show Q_fs Z p0 a__VALUES a_BAD_REQUEST a_UNAUTHORIZED a_NOT_FOUND a_METHOD_NOT_ALLOWED a_NOT_ACCEPTABLE a_UNSUPPORTED_MEDIA_TYPE a_INTERNAL_SERVER_ERROR h0 n0 _ T41.heap _
                rw [e41]
                refine ⟨?_, N1, ?_⟩
                · show some (Value.ref a_UNSUPPORTED_MEDIA_TYPE) = some (Value.ref (own_sel p0 a_BAD_REQUEST a_UNAUTHORIZED a_NOT_FOUND a_METHOD_NOT_ALLOWED a_NOT_ACCEPTABLE a_UNSUPPORTED_MEDIA_TYPE a_INTERNAL_SERVER_ERROR))
                  unfold own_sel
                  rw [if_neg hc8, if_neg hc15, if_neg hc22, if_neg hc29, if_neg hc36, if_pos hc43]
                · exact O1
            · obtain ⟨cl45, Ar45, q45, Sz45, Nn45, Hs45, Gf45⟩ := id V1
              have hin46 : ¬ ((6 : Int32) < 0 ∨ cl45.slots.size ≤ ((6 : Int32)).toNatClampNeg) := inb_of Sz45 ⟨by decide, by decide⟩
              have hat47 : cl45.slots[((6 : Int32)).toNatClampNeg]? = some (.ref a_INTERNAL_SERVER_ERROR) := Hs45.at hin46 rfl
              obtain ⟨T48, X48, e48, st48⟩ := getF X41 hx hZ hown (host := "") (Or.inl (own_w hw 27 rfl)) Via.refl e41 (F_INTERNAL_SERVER_ERROR_httpStatus.ext O1.2) (g := (mkF m 21 #[.val (.int p0), .val (.ref b1), .val (.int (7 : Int32)), .val (.int (6 : Int32)), .val (.ref a_INTERNAL_SERVER_ERROR)] [(.ref a_INTERNAL_SERVER_ERROR)])) rfl rfl (hb hby d_prog_17_method_7_code_21)
              have k49 : ∀ t, own_At p e below m T48 25 #[.val (.int p0), .val (.ref b1), .val (.int (7 : Int32)), .val (.int (6 : Int32)), .val (.ref a_INTERNAL_SERVER_ERROR)] [(.int p0), (.int (500 : Int32))] t → own_En p e below m s₁ #[(.int p0)] 5 t := by
                intro t k
                refine k42 t ?_
                refine XS.icmpYes X41.here hx rfl (pc0 := 25) (pc' := 31) rfl (hb hby d_prog_17_method_7_code_25) rfl (feq (fun q => hc43 q.symm)).2 (by decide) (by decide) ?_
                show own_At p e below m T41 31 #[.val (.int p0), .val (.ref b1), .val (.int (7 : Int32)), .val (.int (5 : Int32)), .val (.ref a_UNSUPPORTED_MEDIA_TYPE)] [] t
                refine XS.iinc X41.here hx rfl (hb hby d_prog_17_method_7_code_31) rfl (l' := #[.val (.int p0), .val (.ref b1), .val (.int (7 : Int32)), .val (.int ((5 : Int32) + (1 : Int32))), .val (.ref a_UNSUPPORTED_MEDIA_TYPE)]) rfl ?_
                show own_At p e below m T41 34 #[.val (.int p0), .val (.ref b1), .val (.int (7 : Int32)), .val (.int ((5 : Int32) + (1 : Int32))), .val (.ref a_UNSUPPORTED_MEDIA_TYPE)] [] t
                rw [show ((5 : Int32) + (1 : Int32)) = (6 : Int32) from by decide]
                show own_At p e below m T41 34 #[.val (.int p0), .val (.ref b1), .val (.int (7 : Int32)), .val (.int (6 : Int32)), .val (.ref a_UNSUPPORTED_MEDIA_TYPE)] [] t
                refine XS.goto X41.here hx rfl (pc0 := 34) (pc' := 9) rfl (hb hby d_prog_17_method_7_code_34) (by decide) (by decide) ?_
                show own_At p e below m T41 9 #[.val (.int p0), .val (.ref b1), .val (.int (7 : Int32)), .val (.int (6 : Int32)), .val (.ref a_UNSUPPORTED_MEDIA_TYPE)] [] t
                refine XS.iloadN X41.here hx rfl (hb hby d_prog_17_method_7_code_9) rfl ?_
                show own_At p e below m T41 10 #[.val (.int p0), .val (.ref b1), .val (.int (7 : Int32)), .val (.int (6 : Int32)), .val (.ref a_UNSUPPORTED_MEDIA_TYPE)] [(.int (6 : Int32))] t
                refine XS.iloadN X41.here hx rfl (hb hby d_prog_17_method_7_code_10) rfl ?_
                show own_At p e below m T41 11 #[.val (.int p0), .val (.ref b1), .val (.int (7 : Int32)), .val (.int (6 : Int32)), .val (.ref a_UNSUPPORTED_MEDIA_TYPE)] [(.int (7 : Int32)), (.int (6 : Int32))] t
                refine XS.icmpNo X41.here hx rfl (hb hby d_prog_17_method_7_code_11) rfl (tlt (by decide : (6 : Int32) < (7 : Int32))).2.1 ?_
                show own_At p e below m T41 14 #[.val (.int p0), .val (.ref b1), .val (.int (7 : Int32)), .val (.int (6 : Int32)), .val (.ref a_UNSUPPORTED_MEDIA_TYPE)] [] t
                refine XS.aloadN X41.here hx rfl (hb hby d_prog_17_method_7_code_14) rfl rfl ?_
                show own_At p e below m T41 15 #[.val (.int p0), .val (.ref b1), .val (.int (7 : Int32)), .val (.int (6 : Int32)), .val (.ref a_UNSUPPORTED_MEDIA_TYPE)] [(.ref b1)] t
                refine XS.iloadN X41.here hx rfl (hb hby d_prog_17_method_7_code_15) rfl ?_
                show own_At p e below m T41 16 #[.val (.int p0), .val (.ref b1), .val (.int (7 : Int32)), .val (.int (6 : Int32)), .val (.ref a_UNSUPPORTED_MEDIA_TYPE)] [(.int (6 : Int32)), (.ref b1)] t
                refine X41.aaload hx (j := (6 : Int32)) (v := (.ref a_INTERNAL_SERVER_ERROR)) (by rw [e41]; exact Ar45.1) (State.isArrayOf_alike hZ.alike Ar45.2.1) rfl Ar45.2.2 hin46 hat47 (g := (mkF m 16 #[.val (.int p0), .val (.ref b1), .val (.int (7 : Int32)), .val (.int (6 : Int32)), .val (.ref a_UNSUPPORTED_MEDIA_TYPE)] [(.int (6 : Int32)), (.ref b1)])) rfl rfl (hb hby d_prog_17_method_7_code_16) _ ?_
                show own_At p e below m T41 17 #[.val (.int p0), .val (.ref b1), .val (.int (7 : Int32)), .val (.int (6 : Int32)), .val (.ref a_UNSUPPORTED_MEDIA_TYPE)] [(.ref a_INTERNAL_SERVER_ERROR)] t
                refine XS.astore X41.here hx rfl (hb hby d_prog_17_method_7_code_17) rfl rfl (l' := #[.val (.int p0), .val (.ref b1), .val (.int (7 : Int32)), .val (.int (6 : Int32)), .val (.ref a_INTERNAL_SERVER_ERROR)]) rfl ?_
                show own_At p e below m T41 19 #[.val (.int p0), .val (.ref b1), .val (.int (7 : Int32)), .val (.int (6 : Int32)), .val (.ref a_INTERNAL_SERVER_ERROR)] [] t
                refine XS.aload X41.here hx rfl (hb hby d_prog_17_method_7_code_19) rfl rfl ?_
                show own_At p e below m T41 21 #[.val (.int p0), .val (.ref b1), .val (.int (7 : Int32)), .val (.int (6 : Int32)), .val (.ref a_INTERNAL_SERVER_ERROR)] [(.ref a_INTERNAL_SERVER_ERROR)] t
                refine st48 _ ?_
                show own_At p e below m T48 24 #[.val (.int p0), .val (.ref b1), .val (.int (7 : Int32)), .val (.int (6 : Int32)), .val (.ref a_INTERNAL_SERVER_ERROR)] [(.int (500 : Int32))] t
                refine XS.iloadN X48.here hx rfl (hb hby d_prog_17_method_7_code_24) rfl ?_
                show own_At p e below m T48 25 #[.val (.int p0), .val (.ref b1), .val (.int (7 : Int32)), .val (.int (6 : Int32)), .val (.ref a_INTERNAL_SERVER_ERROR)] [(.int p0), (.int (500 : Int32))] t
                exact k
              by_cases hc50 : p0 = (500 : Int32)
              · have k51 : ∀ t, own_At p e below m T48 30 #[.val (.int p0), .val (.ref b1), .val (.int (7 : Int32)), .val (.int (6 : Int32)), .val (.ref a_INTERNAL_SERVER_ERROR)] [(.ref a_INTERNAL_SERVER_ERROR)] t → own_En p e below m s₁ #[(.int p0)] 5 t := by
                  intro t k
                  refine k49 t ?_
                  refine XS.icmpNo X48.here hx rfl (hb hby d_prog_17_method_7_code_25) rfl (teq (hc50).symm).2 ?_
                  show own_At p e below m T48 28 #[.val (.int p0), .val (.ref b1), .val (.int (7 : Int32)), .val (.int (6 : Int32)), .val (.ref a_INTERNAL_SERVER_ERROR)] [] t
                  refine XS.aload X48.here hx rfl (hb hby d_prog_17_method_7_code_28) rfl rfl ?_
                  show own_At p e below m T48 30 #[.val (.int p0), .val (.ref b1), .val (.int (7 : Int32)), .val (.int (6 : Int32)), .val (.ref a_INTERNAL_SERVER_ERROR)] [(.ref a_INTERNAL_SERVER_ERROR)] t
                  exact k
                obtain ⟨fs, hr, hrun, hended, hW, hsame⟩ := X48.leave (v := some (.ref a_INTERNAL_SERVER_ERROR)) (fun h => by rw [Bd.returns] at h; cases h)
                refine hNG ⟨_, _, k51 _ ?_, hrun, hended, _, _, rfl, ?_, ⟨_, rfl⟩, hW, hsame.mono (by decide) (by decide)⟩
                · exact retOut X48 hx (t := (.object "com/example/entitlement_ledger/entitlementledger/service/ErrorCode")) Bd.returns rfl (Or.inr (Or.inr (Or.inr (Or.inr ⟨rfl, rfl, rfl⟩)))) (hb hby d_prog_17_method_7_code_30) hr
                · show Q_fs Z p0 a__VALUES a_BAD_REQUEST a_UNAUTHORIZED a_NOT_FOUND a_METHOD_NOT_ALLOWED a_NOT_ACCEPTABLE a_UNSUPPORTED_MEDIA_TYPE a_INTERNAL_SERVER_ERROR h0 n0 _ T48.heap _
                  rw [e48]
                  refine ⟨?_, N1, ?_⟩
                  · show some (Value.ref a_INTERNAL_SERVER_ERROR) = some (Value.ref (own_sel p0 a_BAD_REQUEST a_UNAUTHORIZED a_NOT_FOUND a_METHOD_NOT_ALLOWED a_NOT_ACCEPTABLE a_UNSUPPORTED_MEDIA_TYPE a_INTERNAL_SERVER_ERROR))
                    unfold own_sel
                    rw [if_neg hc8, if_neg hc15, if_neg hc22, if_neg hc29, if_neg hc36, if_neg hc43, if_pos hc50]
                  · exact O1
              · have k52 : ∀ t, own_At p e below m T48 41 #[.val (.int p0), .val (.ref b1), .val (.int (7 : Int32)), .val (.int (7 : Int32)), .val (.ref a_INTERNAL_SERVER_ERROR)] [(.int (500 : Int32)), (.int p0)] t → own_En p e below m s₁ #[(.int p0)] 5 t := by
                  intro t k
                  refine k49 t ?_
                  refine XS.icmpYes X48.here hx rfl (pc0 := 25) (pc' := 31) rfl (hb hby d_prog_17_method_7_code_25) rfl (feq (fun q => hc50 q.symm)).2 (by decide) (by decide) ?_
                  show own_At p e below m T48 31 #[.val (.int p0), .val (.ref b1), .val (.int (7 : Int32)), .val (.int (6 : Int32)), .val (.ref a_INTERNAL_SERVER_ERROR)] [] t
                  refine XS.iinc X48.here hx rfl (hb hby d_prog_17_method_7_code_31) rfl (l' := #[.val (.int p0), .val (.ref b1), .val (.int (7 : Int32)), .val (.int ((6 : Int32) + (1 : Int32))), .val (.ref a_INTERNAL_SERVER_ERROR)]) rfl ?_
                  show own_At p e below m T48 34 #[.val (.int p0), .val (.ref b1), .val (.int (7 : Int32)), .val (.int ((6 : Int32) + (1 : Int32))), .val (.ref a_INTERNAL_SERVER_ERROR)] [] t
                  rw [show ((6 : Int32) + (1 : Int32)) = (7 : Int32) from by decide]
                  show own_At p e below m T48 34 #[.val (.int p0), .val (.ref b1), .val (.int (7 : Int32)), .val (.int (7 : Int32)), .val (.ref a_INTERNAL_SERVER_ERROR)] [] t
                  refine XS.goto X48.here hx rfl (pc0 := 34) (pc' := 9) rfl (hb hby d_prog_17_method_7_code_34) (by decide) (by decide) ?_
                  show own_At p e below m T48 9 #[.val (.int p0), .val (.ref b1), .val (.int (7 : Int32)), .val (.int (7 : Int32)), .val (.ref a_INTERNAL_SERVER_ERROR)] [] t
                  refine XS.iloadN X48.here hx rfl (hb hby d_prog_17_method_7_code_9) rfl ?_
                  show own_At p e below m T48 10 #[.val (.int p0), .val (.ref b1), .val (.int (7 : Int32)), .val (.int (7 : Int32)), .val (.ref a_INTERNAL_SERVER_ERROR)] [(.int (7 : Int32))] t
                  refine XS.iloadN X48.here hx rfl (hb hby d_prog_17_method_7_code_10) rfl ?_
                  show own_At p e below m T48 11 #[.val (.int p0), .val (.ref b1), .val (.int (7 : Int32)), .val (.int (7 : Int32)), .val (.ref a_INTERNAL_SERVER_ERROR)] [(.int (7 : Int32)), (.int (7 : Int32))] t
                  refine XS.icmpYes X48.here hx rfl (pc0 := 11) (pc' := 37) rfl (hb hby d_prog_17_method_7_code_11) rfl (flt (by decide : ¬ ((7 : Int32) < (7 : Int32)))).2.1 (by decide) (by decide) ?_
                  show own_At p e below m T48 37 #[.val (.int p0), .val (.ref b1), .val (.int (7 : Int32)), .val (.int (7 : Int32)), .val (.ref a_INTERNAL_SERVER_ERROR)] [] t
                  refine XS.iloadN X48.here hx rfl (hb hby d_prog_17_method_7_code_37) rfl ?_
                  show own_At p e below m T48 38 #[.val (.int p0), .val (.ref b1), .val (.int (7 : Int32)), .val (.int (7 : Int32)), .val (.ref a_INTERNAL_SERVER_ERROR)] [(.int p0)] t
                  refine XS.sipush X48.here hx rfl (hb hby d_prog_17_method_7_code_38) ?_
                  show own_At p e below m T48 41 #[.val (.int p0), .val (.ref b1), .val (.int (7 : Int32)), .val (.int (7 : Int32)), .val (.ref a_INTERNAL_SERVER_ERROR)] [(.int (500 : Int32)), (.int p0)] t
                  exact k
                by_cases hc53 : p0 < (500 : Int32)
                · obtain ⟨T54, X54, e54, st54⟩ := getS2 X48 hx hZ hown (host := "") (Or.inl (own_w hw 29 rfl)) Via.refl e48 (S_BAD_REQUEST.ext O1.2) (g := (mkF m 44 #[.val (.int p0), .val (.ref b1), .val (.int (7 : Int32)), .val (.int (7 : Int32)), .val (.ref a_INTERNAL_SERVER_ERROR)] [])) rfl (hb hby d_prog_17_method_7_code_44)
                  have k55 : ∀ t, own_At p e below m T54 53 #[.val (.int p0), .val (.ref b1), .val (.int (7 : Int32)), .val (.int (7 : Int32)), .val (.ref a_INTERNAL_SERVER_ERROR)] [(.ref a_BAD_REQUEST)] t → own_En p e below m s₁ #[(.int p0)] 5 t := by
                    intro t k
                    refine k52 t ?_
                    refine XS.icmpNo X48.here hx rfl (hb hby d_prog_17_method_7_code_41) rfl (tlt hc53).2.1 ?_
                    show own_At p e below m T48 44 #[.val (.int p0), .val (.ref b1), .val (.int (7 : Int32)), .val (.int (7 : Int32)), .val (.ref a_INTERNAL_SERVER_ERROR)] [] t
                    refine st54 _ ?_
                    show own_At p e below m T54 47 #[.val (.int p0), .val (.ref b1), .val (.int (7 : Int32)), .val (.int (7 : Int32)), .val (.ref a_INTERNAL_SERVER_ERROR)] [(.ref a_BAD_REQUEST)] t
                    refine XS.goto X54.here hx rfl (pc0 := 47) (pc' := 53) rfl (hb hby d_prog_17_method_7_code_47) (by decide) (by decide) ?_
                    show own_At p e below m T54 53 #[.val (.int p0), .val (.ref b1), .val (.int (7 : Int32)), .val (.int (7 : Int32)), .val (.ref a_INTERNAL_SERVER_ERROR)] [(.ref a_BAD_REQUEST)] t
                    exact k
                  obtain ⟨fs, hr, hrun, hended, hW, hsame⟩ := X54.leave (v := some (.ref a_BAD_REQUEST)) (fun h => by rw [Bd.returns] at h; cases h)
                  refine hNG ⟨_, _, k55 _ ?_, hrun, hended, _, _, rfl, ?_, ⟨_, rfl⟩, hW, hsame.mono (by decide) (by decide)⟩
                  · exact retOut X54 hx (t := (.object "com/example/entitlement_ledger/entitlementledger/service/ErrorCode")) Bd.returns rfl (Or.inr (Or.inr (Or.inr (Or.inr ⟨rfl, rfl, rfl⟩)))) (hb hby d_prog_17_method_7_code_53) hr
                  · show Q_fs Z p0 a__VALUES a_BAD_REQUEST a_UNAUTHORIZED a_NOT_FOUND a_METHOD_NOT_ALLOWED a_NOT_ACCEPTABLE a_UNSUPPORTED_MEDIA_TYPE a_INTERNAL_SERVER_ERROR h0 n0 _ T54.heap _
                    rw [e54]
                    refine ⟨?_, N1, ?_⟩
                    · show some (Value.ref a_BAD_REQUEST) = some (Value.ref (own_sel p0 a_BAD_REQUEST a_UNAUTHORIZED a_NOT_FOUND a_METHOD_NOT_ALLOWED a_NOT_ACCEPTABLE a_UNSUPPORTED_MEDIA_TYPE a_INTERNAL_SERVER_ERROR))
                      unfold own_sel
                      rw [if_neg hc8, if_neg hc15, if_neg hc22, if_neg hc29, if_neg hc36, if_neg hc43, if_neg hc50, if_pos hc53]
                    · exact O1
                · obtain ⟨T56, X56, e56, st56⟩ := getS2 X48 hx hZ hown (host := "") (Or.inl (own_w hw 35 rfl)) Via.refl e48 (S_INTERNAL_SERVER_ERROR.ext O1.2) (g := (mkF m 50 #[.val (.int p0), .val (.ref b1), .val (.int (7 : Int32)), .val (.int (7 : Int32)), .val (.ref a_INTERNAL_SERVER_ERROR)] [])) rfl (hb hby d_prog_17_method_7_code_50)
                  have k57 : ∀ t, own_At p e below m T56 53 #[.val (.int p0), .val (.ref b1), .val (.int (7 : Int32)), .val (.int (7 : Int32)), .val (.ref a_INTERNAL_SERVER_ERROR)] [(.ref a_INTERNAL_SERVER_ERROR)] t → own_En p e below m s₁ #[(.int p0)] 5 t := by
                    intro t k
                    refine k52 t ?_
                    refine XS.icmpYes X48.here hx rfl (pc0 := 41) (pc' := 50) rfl (hb hby d_prog_17_method_7_code_41) rfl (flt hc53).2.1 (by decide) (by decide) ?_
                    show own_At p e below m T48 50 #[.val (.int p0), .val (.ref b1), .val (.int (7 : Int32)), .val (.int (7 : Int32)), .val (.ref a_INTERNAL_SERVER_ERROR)] [] t
                    refine st56 _ ?_
                    show own_At p e below m T56 53 #[.val (.int p0), .val (.ref b1), .val (.int (7 : Int32)), .val (.int (7 : Int32)), .val (.ref a_INTERNAL_SERVER_ERROR)] [(.ref a_INTERNAL_SERVER_ERROR)] t
                    exact k
                  obtain ⟨fs, hr, hrun, hended, hW, hsame⟩ := X56.leave (v := some (.ref a_INTERNAL_SERVER_ERROR)) (fun h => by rw [Bd.returns] at h; cases h)
                  refine hNG ⟨_, _, k57 _ ?_, hrun, hended, _, _, rfl, ?_, ⟨_, rfl⟩, hW, hsame.mono (by decide) (by decide)⟩
                  · exact retOut X56 hx (t := (.object "com/example/entitlement_ledger/entitlementledger/service/ErrorCode")) Bd.returns rfl (Or.inr (Or.inr (Or.inr (Or.inr ⟨rfl, rfl, rfl⟩)))) (hb hby d_prog_17_method_7_code_53) hr
                  · show Q_fs Z p0 a__VALUES a_BAD_REQUEST a_UNAUTHORIZED a_NOT_FOUND a_METHOD_NOT_ALLOWED a_NOT_ACCEPTABLE a_UNSUPPORTED_MEDIA_TYPE a_INTERNAL_SERVER_ERROR h0 n0 _ T56.heap _
                    rw [e56]
                    refine ⟨?_, N1, ?_⟩
                    · show some (Value.ref a_INTERNAL_SERVER_ERROR) = some (Value.ref (own_sel p0 a_BAD_REQUEST a_UNAUTHORIZED a_NOT_FOUND a_METHOD_NOT_ALLOWED a_NOT_ACCEPTABLE a_UNSUPPORTED_MEDIA_TYPE a_INTERNAL_SERVER_ERROR))
                      unfold own_sel
                      rw [if_neg hc8, if_neg hc15, if_neg hc22, if_neg hc29, if_neg hc36, if_neg hc43, if_neg hc50, if_neg hc53]
                    · exact O1
theorem ef_ex (m : MethodId) (x0 : Int32)  : entryFrame m #[(.int x0)] 1 = mkF m 0 #[.val (.int x0)] [] := by first | (simp [entryFrame, mkF, argsToLocals, Value.category]; done) | rfl
theorem d_method_3_code_0 : decode method_3_code 0 = .ok (.iload_n 0, 1) := by decide +kernel
theorem d_method_3_code_1 : decode method_3_code 1 = .ok (.sipush 400, 3) := by decide +kernel
theorem d_method_3_code_4 : decode method_3_code 4 = .ok (.if_icmp .ne 7, 3) := by decide +kernel
theorem d_method_3_code_7 : decode method_3_code 7 = .ok (.getstatic 19, 3) := by decide +kernel
theorem d_method_3_code_10 : decode method_3_code 10 = .ok (.areturn, 1) := by decide +kernel
theorem d_method_3_code_11 : decode method_3_code 11 = .ok (.iload_n 0, 1) := by decide +kernel
theorem d_method_3_code_12 : decode method_3_code 12 = .ok (.sipush 401, 3) := by decide +kernel
theorem d_method_3_code_15 : decode method_3_code 15 = .ok (.if_icmp .ne 7, 3) := by decide +kernel
theorem d_method_3_code_18 : decode method_3_code 18 = .ok (.getstatic 23, 3) := by decide +kernel
theorem d_method_3_code_21 : decode method_3_code 21 = .ok (.areturn, 1) := by decide +kernel
theorem d_method_3_code_22 : decode method_3_code 22 = .ok (.iload_n 0, 1) := by decide +kernel
theorem d_method_3_code_23 : decode method_3_code 23 = .ok (.sipush 404, 3) := by decide +kernel
theorem d_method_3_code_26 : decode method_3_code 26 = .ok (.if_icmp .ne 7, 3) := by decide +kernel
theorem d_method_3_code_29 : decode method_3_code 29 = .ok (.getstatic 26, 3) := by decide +kernel
theorem d_method_3_code_32 : decode method_3_code 32 = .ok (.areturn, 1) := by decide +kernel
theorem d_method_3_code_33 : decode method_3_code 33 = .ok (.iload_n 0, 1) := by decide +kernel
theorem d_method_3_code_34 : decode method_3_code 34 = .ok (.sipush 405, 3) := by decide +kernel
theorem d_method_3_code_37 : decode method_3_code 37 = .ok (.if_icmp .ne 7, 3) := by decide +kernel
theorem d_method_3_code_40 : decode method_3_code 40 = .ok (.getstatic 29, 3) := by decide +kernel
theorem d_method_3_code_43 : decode method_3_code 43 = .ok (.areturn, 1) := by decide +kernel
theorem d_method_3_code_44 : decode method_3_code 44 = .ok (.iload_n 0, 1) := by decide +kernel
theorem d_method_3_code_45 : decode method_3_code 45 = .ok (.sipush 406, 3) := by decide +kernel
theorem d_method_3_code_48 : decode method_3_code 48 = .ok (.if_icmp .ne 7, 3) := by decide +kernel
theorem d_method_3_code_51 : decode method_3_code 51 = .ok (.getstatic 32, 3) := by decide +kernel
theorem d_method_3_code_54 : decode method_3_code 54 = .ok (.areturn, 1) := by decide +kernel
theorem d_method_3_code_55 : decode method_3_code 55 = .ok (.iload_n 0, 1) := by decide +kernel
theorem d_method_3_code_56 : decode method_3_code 56 = .ok (.sipush 415, 3) := by decide +kernel
theorem d_method_3_code_59 : decode method_3_code 59 = .ok (.if_icmp .ne 7, 3) := by decide +kernel
theorem d_method_3_code_62 : decode method_3_code 62 = .ok (.getstatic 35, 3) := by decide +kernel
theorem d_method_3_code_65 : decode method_3_code 65 = .ok (.areturn, 1) := by decide +kernel
theorem d_method_3_code_66 : decode method_3_code 66 = .ok (.iload_n 0, 1) := by decide +kernel
theorem d_method_3_code_67 : decode method_3_code 67 = .ok (.sipush 500, 3) := by decide +kernel
theorem d_method_3_code_70 : decode method_3_code 70 = .ok (.if_icmp .ne 7, 3) := by decide +kernel
theorem d_method_3_code_73 : decode method_3_code 73 = .ok (.getstatic 38, 3) := by decide +kernel
theorem d_method_3_code_76 : decode method_3_code 76 = .ok (.areturn, 1) := by decide +kernel
theorem d_method_3_code_77 : decode method_3_code 77 = .ok (.iload_n 0, 1) := by decide +kernel
theorem d_method_3_code_78 : decode method_3_code 78 = .ok (.sipush 500, 3) := by decide +kernel
theorem d_method_3_code_81 : decode method_3_code 81 = .ok (.if_icmp .ge 7, 3) := by decide +kernel
theorem d_method_3_code_84 : decode method_3_code 84 = .ok (.getstatic 19, 3) := by decide +kernel
theorem d_method_3_code_87 : decode method_3_code 87 = .ok (.areturn, 1) := by decide +kernel
theorem d_method_3_code_88 : decode method_3_code 88 = .ok (.getstatic 38, 3) := by decide +kernel
theorem d_method_3_code_91 : decode method_3_code 91 = .ok (.areturn, 1) := by decide +kernel
theorem pn_com_example_entitlement_ledger_entitlementledger_service_ErrorCodeForStatusPinLaw : plainName "com/example/entitlement_ledger/entitlementledger/service/ErrorCodeForStatusPinLaw" = true := by first | (simp [plainName, overriddenIn]; done) | decide +kernel
abbrev own_m2 : MethodName := ⟨"com/example/entitlement_ledger/entitlementledger/service/ErrorCodeForStatusPinLaw", "expected", "(I)Lcom/example/entitlement_ledger/entitlementledger/service/ErrorCode;"⟩
def Q_ex (Z : State) (p0 : Int32) (a__VALUES : Addr) (a_BAD_REQUEST : Addr) (a_UNAUTHORIZED : Addr) (a_NOT_FOUND : Addr) (a_METHOD_NOT_ALLOWED : Addr) (a_NOT_ACCEPTABLE : Addr) (a_UNSUPPORTED_MEDIA_TYPE : Addr) (a_INTERNAL_SERVER_ERROR : Addr) (h0 : Heap) (n0 : Nat) (v : Option Value) (h : Heap) (L : List Loc) : Prop := v = some (.ref (own_sel p0 a_BAD_REQUEST a_UNAUTHORIZED a_NOT_FOUND a_METHOD_NOT_ALLOWED a_NOT_ACCEPTABLE a_UNSUPPORTED_MEDIA_TYPE a_INTERNAL_SERVER_ERROR)) ∧ Fr n0 L ∧ h = h0
set_option maxRecDepth 65536 in
set_option maxHeartbeats 40000000 in
theorem rm_ex (l : Launch) (Z : State) (a0 : Array Value) (hw : ∀ d ∈ tables_1, d.before a0 Z = true) (ws : List Jvm.Cond) (p0 : Int32) (a__VALUES : Addr) (a_BAD_REQUEST : Addr) (a_UNAUTHORIZED : Addr) (a_NOT_FOUND : Addr) (a_METHOD_NOT_ALLOWED : Addr) (a_NOT_ACCEPTABLE : Addr) (a_UNSUPPORTED_MEDIA_TYPE : Addr) (a_INTERNAL_SERVER_ERROR : Addr) (h0 : Heap) (n0 : Nat) (O0 : Old Z n0 h0) (hE : EV Z a__VALUES a_BAD_REQUEST a_UNAUTHORIZED a_NOT_FOUND a_METHOD_NOT_ALLOWED a_NOT_ACCEPTABLE a_UNSUPPORTED_MEDIA_TYPE a_INTERNAL_SERVER_ERROR) :
    MetFree l own_m2 (head1 (Jvm.Cond.code own_m2 method_3_code 1 (some (.object "com/example/entitlement_ledger/entitlementledger/service/ErrorCode")) :: ws) ({ frames := 0, cells := 0, slots := 0, locals := 0 } : Room)) (fun a U => a = #[(.int p0)] ∧ Z.Warmed39 U.vm ∧ U.heap = h0) (fun _ _ _ _ _ => True) (fun _ U o U' => ∃ v L, o = .returned v ∧ Q_ex Z p0 a__VALUES a_BAD_REQUEST a_UNAUTHORIZED a_NOT_FOUND a_METHOD_NOT_ALLOWED a_NOT_ACCEPTABLE a_UNSUPPORTED_MEDIA_TYPE a_INTERNAL_SERVER_ERROR h0 n0 v U'.heap L ∧ FrameEnd U o U' L ({ frames := 0, cells := 0, slots := 0, locals := 0 } : Room).cells ({ frames := 0, cells := 0, slots := 0, locals := 0 } : Room).slots) := by
  refine MetFree.of_bodySF (plainFor_of_name pn_com_example_entitlement_ledger_entitlementledger_service_ErrorCodeForStatusPinLaw) hisR ?_
  intro p e s m args below meth c s₁ Bd hml0 hP hK
  obtain ⟨rfl, hZ, hh⟩ := hP
  have hx := Bd.exec
  have hby := Bd.bytes
  have hml : c.maxLocals = 1 := hml0
  have hown : s.vm.findClass "com/example/entitlement_ledger/entitlementledger/service/ErrorCodeForStatusPinLaw" = some m.cls := findClass_of_methodNamed Bd.named
  have hnm := (name_of_methodNamed Bd.named Bd.method).1
  have X0 : Stand p l e ({ frames := 0, cells := 0, slots := 0, locals := 0 } : Room) s m #[(.int p0)] below meth c s₁ [] 0 0 := Stand.of_body Bd
  have e0 : s₁.heap = h0 := by rw [← hh, Bd.state]; rfl
  have N0 := Fr.nil n0
  refine Classical.byContradiction fun hNG => ?_
  have K0 := Keep.refl h0 []
  have k0 : ∀ t, own_At p e below m s₁ 0 #[.val (.int p0)] [] t → own_En p e below m s₁ #[(.int p0)] 1 t := fun t k => castTop (ef_ex m p0 ) k
  obtain ⟨S__VALUES, E__VALUES, S_BAD_REQUEST, E_BAD_REQUEST, S_UNAUTHORIZED, E_UNAUTHORIZED, S_NOT_FOUND, E_NOT_FOUND, S_METHOD_NOT_ALLOWED, E_METHOD_NOT_ALLOWED, S_NOT_ACCEPTABLE, E_NOT_ACCEPTABLE, S_UNSUPPORTED_MEDIA_TYPE, E_UNSUPPORTED_MEDIA_TYPE, S_INTERNAL_SERVER_ERROR, E_INTERNAL_SERVER_ERROR, F_BAD_REQUEST_httpStatus, F_UNAUTHORIZED_httpStatus, F_NOT_FOUND_httpStatus, F_METHOD_NOT_ALLOWED_httpStatus, F_NOT_ACCEPTABLE_httpStatus, F_UNSUPPORTED_MEDIA_TYPE_httpStatus, F_INTERNAL_SERVER_ERROR_httpStatus, C__VALUES⟩ := (id hE : EV Z a__VALUES a_BAD_REQUEST a_UNAUTHORIZED a_NOT_FOUND a_METHOD_NOT_ALLOWED a_NOT_ACCEPTABLE a_UNSUPPORTED_MEDIA_TYPE a_INTERNAL_SERVER_ERROR)
  have k1 : ∀ t, own_At p e below m s₁ 4 #[.val (.int p0)] [(.int (400 : Int32)), (.int p0)] t → own_En p e below m s₁ #[(.int p0)] 1 t := by
    intro t k
    refine k0 t ?_
    refine XS.iloadN X0.here hx rfl (hb hby d_method_3_code_0) rfl ?_
    show own_At p e below m s₁ 1 #[.val (.int p0)] [(.int p0)] t
    refine XS.sipush X0.here hx rfl (hb hby d_method_3_code_1) ?_
    show own_At p e below m s₁ 4 #[.val (.int p0)] [(.int (400 : Int32)), (.int p0)] t
    exact k
  by_cases hc2 : p0 = (400 : Int32)
  · obtain ⟨T3, X3, e3, st3⟩ := getS2 X0 hx hZ hown (host := "") (Or.inl (own_w hw 34 rfl)) Via.refl e0 (S_BAD_REQUEST.ext O0.2) (g := (mkF m 7 #[.val (.int p0)] [])) rfl (hb hby d_method_3_code_7)
    have k4 : ∀ t, own_At p e below m T3 10 #[.val (.int p0)] [(.ref a_BAD_REQUEST)] t → own_En p e below m s₁ #[(.int p0)] 1 t := by
      intro t k
      refine k1 t ?_
      refine XS.icmpNo X0.here hx rfl (hb hby d_method_3_code_4) rfl (teq hc2).2 ?_
      show own_At p e below m s₁ 7 #[.val (.int p0)] [] t
      refine st3 _ ?_
      show own_At p e below m T3 10 #[.val (.int p0)] [(.ref a_BAD_REQUEST)] t
      exact k
    obtain ⟨fs, hr, hrun, hended, hW, hsame⟩ := X3.leave (v := some (.ref a_BAD_REQUEST)) (fun h => by rw [Bd.returns] at h; cases h)
    refine hNG ⟨_, _, k4 _ ?_, hrun, hended, _, _, rfl, ?_, ⟨_, rfl⟩, hW, hsame.mono (by decide) (by decide)⟩
    · exact retOut X3 hx (t := (.object "com/example/entitlement_ledger/entitlementledger/service/ErrorCode")) Bd.returns rfl (Or.inr (Or.inr (Or.inr (Or.inr ⟨rfl, rfl, rfl⟩)))) (hb hby d_method_3_code_10) hr
    · show Q_ex Z p0 a__VALUES a_BAD_REQUEST a_UNAUTHORIZED a_NOT_FOUND a_METHOD_NOT_ALLOWED a_NOT_ACCEPTABLE a_UNSUPPORTED_MEDIA_TYPE a_INTERNAL_SERVER_ERROR h0 n0 _ T3.heap _
      rw [e3]
      refine ⟨?_, N0, ?_⟩
      · show some (Value.ref a_BAD_REQUEST) = some (Value.ref (own_sel p0 a_BAD_REQUEST a_UNAUTHORIZED a_NOT_FOUND a_METHOD_NOT_ALLOWED a_NOT_ACCEPTABLE a_UNSUPPORTED_MEDIA_TYPE a_INTERNAL_SERVER_ERROR))
        unfold own_sel
        rw [if_pos hc2]
      · exact rfl
  · have k5 : ∀ t, own_At p e below m s₁ 15 #[.val (.int p0)] [(.int (401 : Int32)), (.int p0)] t → own_En p e below m s₁ #[(.int p0)] 1 t := by
      intro t k
      refine k1 t ?_
      refine XS.icmpYes X0.here hx rfl (pc0 := 4) (pc' := 11) rfl (hb hby d_method_3_code_4) rfl (feq hc2).2 (by decide) (by decide) ?_
      show own_At p e below m s₁ 11 #[.val (.int p0)] [] t
      refine XS.iloadN X0.here hx rfl (hb hby d_method_3_code_11) rfl ?_
      show own_At p e below m s₁ 12 #[.val (.int p0)] [(.int p0)] t
      refine XS.sipush X0.here hx rfl (hb hby d_method_3_code_12) ?_
      show own_At p e below m s₁ 15 #[.val (.int p0)] [(.int (401 : Int32)), (.int p0)] t
      exact k
    by_cases hc6 : p0 = (401 : Int32)
    · obtain ⟨T7, X7, e7, st7⟩ := getS2 X0 hx hZ hown (host := "") (Or.inl (own_w hw 39 rfl)) Via.refl e0 (S_UNAUTHORIZED.ext O0.2) (g := (mkF m 18 #[.val (.int p0)] [])) rfl (hb hby d_method_3_code_18)
      have k8 : ∀ t, own_At p e below m T7 21 #[.val (.int p0)] [(.ref a_UNAUTHORIZED)] t → own_En p e below m s₁ #[(.int p0)] 1 t := by
        intro t k
        refine k5 t ?_
        refine XS.icmpNo X0.here hx rfl (hb hby d_method_3_code_15) rfl (teq hc6).2 ?_
        show own_At p e below m s₁ 18 #[.val (.int p0)] [] t
        refine st7 _ ?_
        show own_At p e below m T7 21 #[.val (.int p0)] [(.ref a_UNAUTHORIZED)] t
        exact k
      obtain ⟨fs, hr, hrun, hended, hW, hsame⟩ := X7.leave (v := some (.ref a_UNAUTHORIZED)) (fun h => by rw [Bd.returns] at h; cases h)
      refine hNG ⟨_, _, k8 _ ?_, hrun, hended, _, _, rfl, ?_, ⟨_, rfl⟩, hW, hsame.mono (by decide) (by decide)⟩
      · exact retOut X7 hx (t := (.object "com/example/entitlement_ledger/entitlementledger/service/ErrorCode")) Bd.returns rfl (Or.inr (Or.inr (Or.inr (Or.inr ⟨rfl, rfl, rfl⟩)))) (hb hby d_method_3_code_21) hr
      · show Q_ex Z p0 a__VALUES a_BAD_REQUEST a_UNAUTHORIZED a_NOT_FOUND a_METHOD_NOT_ALLOWED a_NOT_ACCEPTABLE a_UNSUPPORTED_MEDIA_TYPE a_INTERNAL_SERVER_ERROR h0 n0 _ T7.heap _
        rw [e7]
        refine ⟨?_, N0, ?_⟩
        · show some (Value.ref a_UNAUTHORIZED) = some (Value.ref (own_sel p0 a_BAD_REQUEST a_UNAUTHORIZED a_NOT_FOUND a_METHOD_NOT_ALLOWED a_NOT_ACCEPTABLE a_UNSUPPORTED_MEDIA_TYPE a_INTERNAL_SERVER_ERROR))
          unfold own_sel
          rw [if_neg hc2, if_pos hc6]
        · exact rfl
    · have k9 : ∀ t, own_At p e below m s₁ 26 #[.val (.int p0)] [(.int (404 : Int32)), (.int p0)] t → own_En p e below m s₁ #[(.int p0)] 1 t := by
        intro t k
        refine k5 t ?_
        refine XS.icmpYes X0.here hx rfl (pc0 := 15) (pc' := 22) rfl (hb hby d_method_3_code_15) rfl (feq hc6).2 (by decide) (by decide) ?_
        show own_At p e below m s₁ 22 #[.val (.int p0)] [] t
        refine XS.iloadN X0.here hx rfl (hb hby d_method_3_code_22) rfl ?_
        show own_At p e below m s₁ 23 #[.val (.int p0)] [(.int p0)] t
        refine XS.sipush X0.here hx rfl (hb hby d_method_3_code_23) ?_
        show own_At p e below m s₁ 26 #[.val (.int p0)] [(.int (404 : Int32)), (.int p0)] t
        exact k
      by_cases hc10 : p0 = (404 : Int32)
      · obtain ⟨T11, X11, e11, st11⟩ := getS2 X0 hx hZ hown (host := "") (Or.inl (own_w hw 38 rfl)) Via.refl e0 (S_NOT_FOUND.ext O0.2) (g := (mkF m 29 #[.val (.int p0)] [])) rfl (hb hby d_method_3_code_29)
        have k12 : ∀ t, own_At p e below m T11 32 #[.val (.int p0)] [(.ref a_NOT_FOUND)] t → own_En p e below m s₁ #[(.int p0)] 1 t := by
          intro t k
          refine k9 t ?_
          refine XS.icmpNo X0.here hx rfl (hb hby d_method_3_code_26) rfl (teq hc10).2 ?_
          show own_At p e below m s₁ 29 #[.val (.int p0)] [] t
          refine st11 _ ?_
          show own_At p e below m T11 32 #[.val (.int p0)] [(.ref a_NOT_FOUND)] t
          exact k
        obtain ⟨fs, hr, hrun, hended, hW, hsame⟩ := X11.leave (v := some (.ref a_NOT_FOUND)) (fun h => by rw [Bd.returns] at h; cases h)
        refine hNG ⟨_, _, k12 _ ?_, hrun, hended, _, _, rfl, ?_, ⟨_, rfl⟩, hW, hsame.mono (by decide) (by decide)⟩
        · exact retOut X11 hx (t := (.object "com/example/entitlement_ledger/entitlementledger/service/ErrorCode")) Bd.returns rfl (Or.inr (Or.inr (Or.inr (Or.inr ⟨rfl, rfl, rfl⟩)))) (hb hby d_method_3_code_32) hr
        · show Q_ex Z p0 a__VALUES a_BAD_REQUEST a_UNAUTHORIZED a_NOT_FOUND a_METHOD_NOT_ALLOWED a_NOT_ACCEPTABLE a_UNSUPPORTED_MEDIA_TYPE a_INTERNAL_SERVER_ERROR h0 n0 _ T11.heap _
          rw [e11]
          refine ⟨?_, N0, ?_⟩
          · show some (Value.ref a_NOT_FOUND) = some (Value.ref (own_sel p0 a_BAD_REQUEST a_UNAUTHORIZED a_NOT_FOUND a_METHOD_NOT_ALLOWED a_NOT_ACCEPTABLE a_UNSUPPORTED_MEDIA_TYPE a_INTERNAL_SERVER_ERROR))
            unfold own_sel
            rw [if_neg hc2, if_neg hc6, if_pos hc10]
          · exact rfl
      · have k13 : ∀ t, own_At p e below m s₁ 37 #[.val (.int p0)] [(.int (405 : Int32)), (.int p0)] t → own_En p e below m s₁ #[(.int p0)] 1 t := by
          intro t k
          refine k9 t ?_
          refine XS.icmpYes X0.here hx rfl (pc0 := 26) (pc' := 33) rfl (hb hby d_method_3_code_26) rfl (feq hc10).2 (by decide) (by decide) ?_
          show own_At p e below m s₁ 33 #[.val (.int p0)] [] t
          refine XS.iloadN X0.here hx rfl (hb hby d_method_3_code_33) rfl ?_
          show own_At p e below m s₁ 34 #[.val (.int p0)] [(.int p0)] t
          refine XS.sipush X0.here hx rfl (hb hby d_method_3_code_34) ?_
          show own_At p e below m s₁ 37 #[.val (.int p0)] [(.int (405 : Int32)), (.int p0)] t
          exact k
        by_cases hc14 : p0 = (405 : Int32)
        · obtain ⟨T15, X15, e15, st15⟩ := getS2 X0 hx hZ hown (host := "") (Or.inl (own_w hw 37 rfl)) Via.refl e0 (S_METHOD_NOT_ALLOWED.ext O0.2) (g := (mkF m 40 #[.val (.int p0)] [])) rfl (hb hby d_method_3_code_40)
          have k16 : ∀ t, own_At p e below m T15 43 #[.val (.int p0)] [(.ref a_METHOD_NOT_ALLOWED)] t → own_En p e below m s₁ #[(.int p0)] 1 t := by
            intro t k
            refine k13 t ?_
            refine XS.icmpNo X0.here hx rfl (hb hby d_method_3_code_37) rfl (teq hc14).2 ?_
            show own_At p e below m s₁ 40 #[.val (.int p0)] [] t
            refine st15 _ ?_
            show own_At p e below m T15 43 #[.val (.int p0)] [(.ref a_METHOD_NOT_ALLOWED)] t
            exact k
          obtain ⟨fs, hr, hrun, hended, hW, hsame⟩ := X15.leave (v := some (.ref a_METHOD_NOT_ALLOWED)) (fun h => by rw [Bd.returns] at h; cases h)
          refine hNG ⟨_, _, k16 _ ?_, hrun, hended, _, _, rfl, ?_, ⟨_, rfl⟩, hW, hsame.mono (by decide) (by decide)⟩
          · exact retOut X15 hx (t := (.object "com/example/entitlement_ledger/entitlementledger/service/ErrorCode")) Bd.returns rfl (Or.inr (Or.inr (Or.inr (Or.inr ⟨rfl, rfl, rfl⟩)))) (hb hby d_method_3_code_43) hr
          · show Q_ex Z p0 a__VALUES a_BAD_REQUEST a_UNAUTHORIZED a_NOT_FOUND a_METHOD_NOT_ALLOWED a_NOT_ACCEPTABLE a_UNSUPPORTED_MEDIA_TYPE a_INTERNAL_SERVER_ERROR h0 n0 _ T15.heap _
            rw [e15]
            refine ⟨?_, N0, ?_⟩
            · show some (Value.ref a_METHOD_NOT_ALLOWED) = some (Value.ref (own_sel p0 a_BAD_REQUEST a_UNAUTHORIZED a_NOT_FOUND a_METHOD_NOT_ALLOWED a_NOT_ACCEPTABLE a_UNSUPPORTED_MEDIA_TYPE a_INTERNAL_SERVER_ERROR))
              unfold own_sel
              rw [if_neg hc2, if_neg hc6, if_neg hc10, if_pos hc14]
            · exact rfl
        · have k17 : ∀ t, own_At p e below m s₁ 48 #[.val (.int p0)] [(.int (406 : Int32)), (.int p0)] t → own_En p e below m s₁ #[(.int p0)] 1 t := by
            intro t k
            refine k13 t ?_
            refine XS.icmpYes X0.here hx rfl (pc0 := 37) (pc' := 44) rfl (hb hby d_method_3_code_37) rfl (feq hc14).2 (by decide) (by decide) ?_
            show own_At p e below m s₁ 44 #[.val (.int p0)] [] t
            refine XS.iloadN X0.here hx rfl (hb hby d_method_3_code_44) rfl ?_
            show own_At p e below m s₁ 45 #[.val (.int p0)] [(.int p0)] t
            refine XS.sipush X0.here hx rfl (hb hby d_method_3_code_45) ?_
            show own_At p e below m s₁ 48 #[.val (.int p0)] [(.int (406 : Int32)), (.int p0)] t
            exact k
          by_cases hc18 : p0 = (406 : Int32)
          · obtain ⟨T19, X19, e19, st19⟩ := getS2 X0 hx hZ hown (host := "") (Or.inl (own_w hw 41 rfl)) Via.refl e0 (S_NOT_ACCEPTABLE.ext O0.2) (g := (mkF m 51 #[.val (.int p0)] [])) rfl (hb hby d_method_3_code_51)
            have k20 : ∀ t, own_At p e below m T19 54 #[.val (.int p0)] [(.ref a_NOT_ACCEPTABLE)] t → own_En p e below m s₁ #[(.int p0)] 1 t := by
              intro t k
              refine k17 t ?_
              refine XS.icmpNo X0.here hx rfl (hb hby d_method_3_code_48) rfl (teq hc18).2 ?_
              show own_At p e below m s₁ 51 #[.val (.int p0)] [] t
              refine st19 _ ?_
              show own_At p e below m T19 54 #[.val (.int p0)] [(.ref a_NOT_ACCEPTABLE)] t
              exact k
            obtain ⟨fs, hr, hrun, hended, hW, hsame⟩ := X19.leave (v := some (.ref a_NOT_ACCEPTABLE)) (fun h => by rw [Bd.returns] at h; cases h)
            refine hNG ⟨_, _, k20 _ ?_, hrun, hended, _, _, rfl, ?_, ⟨_, rfl⟩, hW, hsame.mono (by decide) (by decide)⟩
            · exact retOut X19 hx (t := (.object "com/example/entitlement_ledger/entitlementledger/service/ErrorCode")) Bd.returns rfl (Or.inr (Or.inr (Or.inr (Or.inr ⟨rfl, rfl, rfl⟩)))) (hb hby d_method_3_code_54) hr
            · show Q_ex Z p0 a__VALUES a_BAD_REQUEST a_UNAUTHORIZED a_NOT_FOUND a_METHOD_NOT_ALLOWED a_NOT_ACCEPTABLE a_UNSUPPORTED_MEDIA_TYPE a_INTERNAL_SERVER_ERROR h0 n0 _ T19.heap _
              rw [e19]
              refine ⟨?_, N0, ?_⟩
              · show some (Value.ref a_NOT_ACCEPTABLE) = some (Value.ref (own_sel p0 a_BAD_REQUEST a_UNAUTHORIZED a_NOT_FOUND a_METHOD_NOT_ALLOWED a_NOT_ACCEPTABLE a_UNSUPPORTED_MEDIA_TYPE a_INTERNAL_SERVER_ERROR))
                unfold own_sel
                rw [if_neg hc2, if_neg hc6, if_neg hc10, if_neg hc14, if_pos hc18]
              · exact rfl
          · have k21 : ∀ t, own_At p e below m s₁ 59 #[.val (.int p0)] [(.int (415 : Int32)), (.int p0)] t → own_En p e below m s₁ #[(.int p0)] 1 t := by
              intro t k
              refine k17 t ?_
              refine XS.icmpYes X0.here hx rfl (pc0 := 48) (pc' := 55) rfl (hb hby d_method_3_code_48) rfl (feq hc18).2 (by decide) (by decide) ?_
              show own_At p e below m s₁ 55 #[.val (.int p0)] [] t
              refine XS.iloadN X0.here hx rfl (hb hby d_method_3_code_55) rfl ?_
              show own_At p e below m s₁ 56 #[.val (.int p0)] [(.int p0)] t
              refine XS.sipush X0.here hx rfl (hb hby d_method_3_code_56) ?_
              show own_At p e below m s₁ 59 #[.val (.int p0)] [(.int (415 : Int32)), (.int p0)] t
              exact k
            by_cases hc22 : p0 = (415 : Int32)
            · obtain ⟨T23, X23, e23, st23⟩ := getS2 X0 hx hZ hown (host := "") (Or.inl (own_w hw 40 rfl)) Via.refl e0 (S_UNSUPPORTED_MEDIA_TYPE.ext O0.2) (g := (mkF m 62 #[.val (.int p0)] [])) rfl (hb hby d_method_3_code_62)
              have k24 : ∀ t, own_At p e below m T23 65 #[.val (.int p0)] [(.ref a_UNSUPPORTED_MEDIA_TYPE)] t → own_En p e below m s₁ #[(.int p0)] 1 t := by
                intro t k
                refine k21 t ?_
                refine XS.icmpNo X0.here hx rfl (hb hby d_method_3_code_59) rfl (teq hc22).2 ?_
                show own_At p e below m s₁ 62 #[.val (.int p0)] [] t
                refine st23 _ ?_
                show own_At p e below m T23 65 #[.val (.int p0)] [(.ref a_UNSUPPORTED_MEDIA_TYPE)] t
                exact k
              obtain ⟨fs, hr, hrun, hended, hW, hsame⟩ := X23.leave (v := some (.ref a_UNSUPPORTED_MEDIA_TYPE)) (fun h => by rw [Bd.returns] at h; cases h)
              refine hNG ⟨_, _, k24 _ ?_, hrun, hended, _, _, rfl, ?_, ⟨_, rfl⟩, hW, hsame.mono (by decide) (by decide)⟩
              · exact retOut X23 hx (t := (.object "com/example/entitlement_ledger/entitlementledger/service/ErrorCode")) Bd.returns rfl (Or.inr (Or.inr (Or.inr (Or.inr ⟨rfl, rfl, rfl⟩)))) (hb hby d_method_3_code_65) hr
              · show Q_ex Z p0 a__VALUES a_BAD_REQUEST a_UNAUTHORIZED a_NOT_FOUND a_METHOD_NOT_ALLOWED a_NOT_ACCEPTABLE a_UNSUPPORTED_MEDIA_TYPE a_INTERNAL_SERVER_ERROR h0 n0 _ T23.heap _
                rw [e23]
                refine ⟨?_, N0, ?_⟩
                · show some (Value.ref a_UNSUPPORTED_MEDIA_TYPE) = some (Value.ref (own_sel p0 a_BAD_REQUEST a_UNAUTHORIZED a_NOT_FOUND a_METHOD_NOT_ALLOWED a_NOT_ACCEPTABLE a_UNSUPPORTED_MEDIA_TYPE a_INTERNAL_SERVER_ERROR))
                  unfold own_sel
                  rw [if_neg hc2, if_neg hc6, if_neg hc10, if_neg hc14, if_neg hc18, if_pos hc22]
                · exact rfl
            · have k25 : ∀ t, own_At p e below m s₁ 70 #[.val (.int p0)] [(.int (500 : Int32)), (.int p0)] t → own_En p e below m s₁ #[(.int p0)] 1 t := by
                intro t k
                refine k21 t ?_
                refine XS.icmpYes X0.here hx rfl (pc0 := 59) (pc' := 66) rfl (hb hby d_method_3_code_59) rfl (feq hc22).2 (by decide) (by decide) ?_
                show own_At p e below m s₁ 66 #[.val (.int p0)] [] t
                refine XS.iloadN X0.here hx rfl (hb hby d_method_3_code_66) rfl ?_
                show own_At p e below m s₁ 67 #[.val (.int p0)] [(.int p0)] t
                refine XS.sipush X0.here hx rfl (hb hby d_method_3_code_67) ?_
                show own_At p e below m s₁ 70 #[.val (.int p0)] [(.int (500 : Int32)), (.int p0)] t
                exact k
              by_cases hc26 : p0 = (500 : Int32)
              · obtain ⟨T27, X27, e27, st27⟩ := getS2 X0 hx hZ hown (host := "") (Or.inl (own_w hw 36 rfl)) Via.refl e0 (S_INTERNAL_SERVER_ERROR.ext O0.2) (g := (mkF m 73 #[.val (.int p0)] [])) rfl (hb hby d_method_3_code_73)
                have k28 : ∀ t, own_At p e below m T27 76 #[.val (.int p0)] [(.ref a_INTERNAL_SERVER_ERROR)] t → own_En p e below m s₁ #[(.int p0)] 1 t := by
                  intro t k
                  refine k25 t ?_
                  refine XS.icmpNo X0.here hx rfl (hb hby d_method_3_code_70) rfl (teq hc26).2 ?_
                  show own_At p e below m s₁ 73 #[.val (.int p0)] [] t
                  refine st27 _ ?_
                  show own_At p e below m T27 76 #[.val (.int p0)] [(.ref a_INTERNAL_SERVER_ERROR)] t
                  exact k
                obtain ⟨fs, hr, hrun, hended, hW, hsame⟩ := X27.leave (v := some (.ref a_INTERNAL_SERVER_ERROR)) (fun h => by rw [Bd.returns] at h; cases h)
                refine hNG ⟨_, _, k28 _ ?_, hrun, hended, _, _, rfl, ?_, ⟨_, rfl⟩, hW, hsame.mono (by decide) (by decide)⟩
                · exact retOut X27 hx (t := (.object "com/example/entitlement_ledger/entitlementledger/service/ErrorCode")) Bd.returns rfl (Or.inr (Or.inr (Or.inr (Or.inr ⟨rfl, rfl, rfl⟩)))) (hb hby d_method_3_code_76) hr
                · show Q_ex Z p0 a__VALUES a_BAD_REQUEST a_UNAUTHORIZED a_NOT_FOUND a_METHOD_NOT_ALLOWED a_NOT_ACCEPTABLE a_UNSUPPORTED_MEDIA_TYPE a_INTERNAL_SERVER_ERROR h0 n0 _ T27.heap _
                  rw [e27]
                  refine ⟨?_, N0, ?_⟩
                  · show some (Value.ref a_INTERNAL_SERVER_ERROR) = some (Value.ref (own_sel p0 a_BAD_REQUEST a_UNAUTHORIZED a_NOT_FOUND a_METHOD_NOT_ALLOWED a_NOT_ACCEPTABLE a_UNSUPPORTED_MEDIA_TYPE a_INTERNAL_SERVER_ERROR))
                    unfold own_sel
                    rw [if_neg hc2, if_neg hc6, if_neg hc10, if_neg hc14, if_neg hc18, if_neg hc22, if_pos hc26]
                  · exact rfl
              · have k29 : ∀ t, own_At p e below m s₁ 81 #[.val (.int p0)] [(.int (500 : Int32)), (.int p0)] t → own_En p e below m s₁ #[(.int p0)] 1 t := by
                  intro t k
                  refine k25 t ?_
                  refine XS.icmpYes X0.here hx rfl (pc0 := 70) (pc' := 77) rfl (hb hby d_method_3_code_70) rfl (feq hc26).2 (by decide) (by decide) ?_
                  show own_At p e below m s₁ 77 #[.val (.int p0)] [] t
                  refine XS.iloadN X0.here hx rfl (hb hby d_method_3_code_77) rfl ?_
                  show own_At p e below m s₁ 78 #[.val (.int p0)] [(.int p0)] t
                  refine XS.sipush X0.here hx rfl (hb hby d_method_3_code_78) ?_
                  show own_At p e below m s₁ 81 #[.val (.int p0)] [(.int (500 : Int32)), (.int p0)] t
                  exact k
                by_cases hc30 : p0 < (500 : Int32)
                · obtain ⟨T31, X31, e31, st31⟩ := getS2 X0 hx hZ hown (host := "") (Or.inl (own_w hw 34 rfl)) Via.refl e0 (S_BAD_REQUEST.ext O0.2) (g := (mkF m 84 #[.val (.int p0)] [])) rfl (hb hby d_method_3_code_84)
                  have k32 : ∀ t, own_At p e below m T31 87 #[.val (.int p0)] [(.ref a_BAD_REQUEST)] t → own_En p e below m s₁ #[(.int p0)] 1 t := by
                    intro t k
                    refine k29 t ?_
                    refine XS.icmpNo X0.here hx rfl (hb hby d_method_3_code_81) rfl (tlt hc30).2.1 ?_
                    show own_At p e below m s₁ 84 #[.val (.int p0)] [] t
                    refine st31 _ ?_
                    show own_At p e below m T31 87 #[.val (.int p0)] [(.ref a_BAD_REQUEST)] t
                    exact k
                  obtain ⟨fs, hr, hrun, hended, hW, hsame⟩ := X31.leave (v := some (.ref a_BAD_REQUEST)) (fun h => by rw [Bd.returns] at h; cases h)
                  refine hNG ⟨_, _, k32 _ ?_, hrun, hended, _, _, rfl, ?_, ⟨_, rfl⟩, hW, hsame.mono (by decide) (by decide)⟩
                  · exact retOut X31 hx (t := (.object "com/example/entitlement_ledger/entitlementledger/service/ErrorCode")) Bd.returns rfl (Or.inr (Or.inr (Or.inr (Or.inr ⟨rfl, rfl, rfl⟩)))) (hb hby d_method_3_code_87) hr
                  · show Q_ex Z p0 a__VALUES a_BAD_REQUEST a_UNAUTHORIZED a_NOT_FOUND a_METHOD_NOT_ALLOWED a_NOT_ACCEPTABLE a_UNSUPPORTED_MEDIA_TYPE a_INTERNAL_SERVER_ERROR h0 n0 _ T31.heap _
                    rw [e31]
                    refine ⟨?_, N0, ?_⟩
                    · show some (Value.ref a_BAD_REQUEST) = some (Value.ref (own_sel p0 a_BAD_REQUEST a_UNAUTHORIZED a_NOT_FOUND a_METHOD_NOT_ALLOWED a_NOT_ACCEPTABLE a_UNSUPPORTED_MEDIA_TYPE a_INTERNAL_SERVER_ERROR))
                      unfold own_sel
                      rw [if_neg hc2, if_neg hc6, if_neg hc10, if_neg hc14, if_neg hc18, if_neg hc22, if_neg hc26, if_pos hc30]
                    · exact rfl
                · obtain ⟨T33, X33, e33, st33⟩ := getS2 X0 hx hZ hown (host := "") (Or.inl (own_w hw 36 rfl)) Via.refl e0 (S_INTERNAL_SERVER_ERROR.ext O0.2) (g := (mkF m 88 #[.val (.int p0)] [])) rfl (hb hby d_method_3_code_88)
                  have k34 : ∀ t, own_At p e below m T33 91 #[.val (.int p0)] [(.ref a_INTERNAL_SERVER_ERROR)] t → own_En p e below m s₁ #[(.int p0)] 1 t := by
                    intro t k
                    refine k29 t ?_
                    refine XS.icmpYes X0.here hx rfl (pc0 := 81) (pc' := 88) rfl (hb hby d_method_3_code_81) rfl (flt hc30).2.1 (by decide) (by decide) ?_
                    show own_At p e below m s₁ 88 #[.val (.int p0)] [] t
                    refine st33 _ ?_
                    show own_At p e below m T33 91 #[.val (.int p0)] [(.ref a_INTERNAL_SERVER_ERROR)] t
                    exact k
                  obtain ⟨fs, hr, hrun, hended, hW, hsame⟩ := X33.leave (v := some (.ref a_INTERNAL_SERVER_ERROR)) (fun h => by rw [Bd.returns] at h; cases h)
                  refine hNG ⟨_, _, k34 _ ?_, hrun, hended, _, _, rfl, ?_, ⟨_, rfl⟩, hW, hsame.mono (by decide) (by decide)⟩
                  · exact retOut X33 hx (t := (.object "com/example/entitlement_ledger/entitlementledger/service/ErrorCode")) Bd.returns rfl (Or.inr (Or.inr (Or.inr (Or.inr ⟨rfl, rfl, rfl⟩)))) (hb hby d_method_3_code_91) hr
                  · show Q_ex Z p0 a__VALUES a_BAD_REQUEST a_UNAUTHORIZED a_NOT_FOUND a_METHOD_NOT_ALLOWED a_NOT_ACCEPTABLE a_UNSUPPORTED_MEDIA_TYPE a_INTERNAL_SERVER_ERROR h0 n0 _ T33.heap _
                    rw [e33]
                    refine ⟨?_, N0, ?_⟩
                    · show some (Value.ref a_INTERNAL_SERVER_ERROR) = some (Value.ref (own_sel p0 a_BAD_REQUEST a_UNAUTHORIZED a_NOT_FOUND a_METHOD_NOT_ALLOWED a_NOT_ACCEPTABLE a_UNSUPPORTED_MEDIA_TYPE a_INTERNAL_SERVER_ERROR))
                      unfold own_sel
                      rw [if_neg hc2, if_neg hc6, if_neg hc10, if_neg hc14, if_neg hc18, if_neg hc22, if_neg hc26, if_neg hc30]
                    · exact rfl
theorem ef_law (m : MethodId) (x0 : Int32) (x1 : Int32)  : entryFrame m #[(.int x0), (.int x1)] maxLocals = mkF m 0 #[.val (.int x0), .val (.int x1), .unset, .unset] [] := by first | (simp [entryFrame, mkF, argsToLocals, Value.category, maxLocals]; done) | rfl
theorem pd__I_Lcom_example_entitlement_ledger_entitlementledger_service_ErrorCode_ : parseMethodDescriptor "(I)Lcom/example/entitlement_ledger/entitlementledger/service/ErrorCode;" = some ⟨[.int], some (.object "com/example/entitlement_ledger/entitlementledger/service/ErrorCode")⟩ := by decide +kernel
def Q_law (Z : State) (p0 : Int32) (p1 : Int32) (a__VALUES : Addr) (a_BAD_REQUEST : Addr) (a_UNAUTHORIZED : Addr) (a_NOT_FOUND : Addr) (a_METHOD_NOT_ALLOWED : Addr) (a_NOT_ACCEPTABLE : Addr) (a_UNSUPPORTED_MEDIA_TYPE : Addr) (a_INTERNAL_SERVER_ERROR : Addr) (h0 : Heap) (n0 : Nat) (v : Option Value) (h : Heap) (L : List Loc) : Prop := v = some (.int (1 : Int32)) ∧ Fr n0 L
set_option maxRecDepth 65536 in
set_option maxHeartbeats 40000000 in
theorem rm_law (l : Launch) (Z : State) (a0 : Array Value) (hw : ∀ d ∈ tables_1, d.before a0 Z = true) (ws : List Jvm.Cond) (p0 : Int32) (p1 : Int32) (a__VALUES : Addr) (a_BAD_REQUEST : Addr) (a_UNAUTHORIZED : Addr) (a_NOT_FOUND : Addr) (a_METHOD_NOT_ALLOWED : Addr) (a_NOT_ACCEPTABLE : Addr) (a_UNSUPPORTED_MEDIA_TYPE : Addr) (a_INTERNAL_SERVER_ERROR : Addr) (h0 : Heap) (n0 : Nat) (O0 : Old Z n0 h0) (hE : EV Z a__VALUES a_BAD_REQUEST a_UNAUTHORIZED a_NOT_FOUND a_METHOD_NOT_ALLOWED a_NOT_ACCEPTABLE a_UNSUPPORTED_MEDIA_TYPE a_INTERNAL_SERVER_ERROR) :
    MetFree l x (head1 (Jvm.Cond.code x code maxLocals ret :: ws) room_1) (fun a U => a = #[(.int p0), (.int p1)] ∧ Z.Warmed39 U.vm ∧ U.heap = h0) (fun _ _ _ _ _ => True) (fun _ U o U' => ∃ v L, o = .returned v ∧ Q_law Z p0 p1 a__VALUES a_BAD_REQUEST a_UNAUTHORIZED a_NOT_FOUND a_METHOD_NOT_ALLOWED a_NOT_ACCEPTABLE a_UNSUPPORTED_MEDIA_TYPE a_INTERNAL_SERVER_ERROR h0 n0 v U'.heap L ∧ FrameEnd U o U' L 1 7) := by
  refine MetFree.of_bodySF (plainFor_of_name pn_com_example_entitlement_ledger_entitlementledger_service_ErrorCodeForStatusPinLaw) hisR ?_
  intro p e s m args below meth c s₁ Bd hml0 hP hK
  obtain ⟨rfl, hZ, hh⟩ := hP
  have hx := Bd.exec
  have hby := Bd.bytes
  have hml : c.maxLocals = 4 := hml0
  have hown : s.vm.findClass "com/example/entitlement_ledger/entitlementledger/service/ErrorCodeForStatusPinLaw" = some m.cls := findClass_of_methodNamed Bd.named
  have hnm := (name_of_methodNamed Bd.named Bd.method).1
  have X0 : Stand p l e room_1 s m #[(.int p0), (.int p1)] below meth c s₁ [] 0 0 := Stand.of_body Bd
  have e0 : s₁.heap = h0 := by rw [← hh, Bd.state]; rfl
  have N0 := Fr.nil n0
  refine Classical.byContradiction fun hNG => ?_
  have K0 := Keep.refl h0 []
  have k0 : ∀ t, own_At p e below m s₁ 0 #[.val (.int p0), .val (.int p1), .unset, .unset] [] t → own_En p e below m s₁ #[(.int p0), (.int p1)] maxLocals t := fun t k => castTop (ef_law m p0 p1 ) k
  obtain ⟨S__VALUES, E__VALUES, S_BAD_REQUEST, E_BAD_REQUEST, S_UNAUTHORIZED, E_UNAUTHORIZED, S_NOT_FOUND, E_NOT_FOUND, S_METHOD_NOT_ALLOWED, E_METHOD_NOT_ALLOWED, S_NOT_ACCEPTABLE, E_NOT_ACCEPTABLE, S_UNSUPPORTED_MEDIA_TYPE, E_UNSUPPORTED_MEDIA_TYPE, S_INTERNAL_SERVER_ERROR, E_INTERNAL_SERVER_ERROR, F_BAD_REQUEST_httpStatus, F_UNAUTHORIZED_httpStatus, F_NOT_FOUND_httpStatus, F_METHOD_NOT_ALLOWED_httpStatus, F_NOT_ACCEPTABLE_httpStatus, F_UNSUPPORTED_MEDIA_TYPE_httpStatus, F_INTERNAL_SERVER_ERROR_httpStatus, C__VALUES⟩ := (id hE : EV Z a__VALUES a_BAD_REQUEST a_UNAUTHORIZED a_NOT_FOUND a_METHOD_NOT_ALLOWED a_NOT_ACCEPTABLE a_UNSUPPORTED_MEDIA_TYPE a_INTERNAL_SERVER_ERROR)
  have k1 : ∀ t, own_At p e below m s₁ 3 #[.val (.int p0), .val (.int p1), .unset, .unset] [(.int (p1 &&& (1 : Int32)))] t → own_En p e below m s₁ #[(.int p0), (.int p1)] maxLocals t := by
    intro t k
    refine k0 t ?_
    refine XS.iloadN X0.here hx rfl (hb hby at_0) rfl ?_
    show own_At p e below m s₁ 1 #[.val (.int p0), .val (.int p1), .unset, .unset] [(.int p1)] t
    refine XS.iconst X0.here hx rfl (hb hby at_1) ?_
    show own_At p e below m s₁ 2 #[.val (.int p0), .val (.int p1), .unset, .unset] [(.int (1 : Int32)), (.int p1)] t
    refine XS.iand X0.here hx rfl (hb hby at_2) rfl ?_
    show own_At p e below m s₁ 3 #[.val (.int p0), .val (.int p1), .unset, .unset] [(.int (p1 &&& (1 : Int32)))] t
    exact k
  by_cases hc2 : (p1 &&& (1 : Int32)) = (0 : Int32)
  · obtain ⟨_, _, ⟨T3, L3, k3, n3⟩, -, X3, ⟨Lc3, hQ3, l3, y3, z3⟩, st3⟩ := Jvm.LawKit.callS X0 hx (y := own_m1) hown (mvT hZ (own_w hw 1 rfl)) (mvT hZ (own_w hw 2 rfl)) (mvT hZ (own_w hw 3 rfl)) (mvT hZ (own_w hw 4 rfl)) (by decide) (backOf (W := 0) (rm_fs l Z a0 hw [] p0 _ _ _ _ _ _ _ _ h0 n0 O0 hE) hZ (own_w hw 4 rfl) (own_w hw 3 rfl) (by decide) (by decide)) (g := (mkF m 24 #[.val (.int p0), .val (.int p1), .val (.int p0), .unset] [(.int p0)])) rfl (by rw [hml]; rfl) (argsL := [(.int p0)]) (rest := []) (lenOf pd__I_Lcom_example_entitlement_ledger_entitlementledger_service_ErrorCode_ rfl) rfl (by show 2 * 0 + _ ≤ _; exact Nat.le_of_eq rfl) (hb hby at_24) (fun _ _ => ⟨rfl, e0, (by decide : 0 + 1 ≤ _), (by decide : 0 + 7 ≤ _)⟩)
    dsimp only [Pt.U, Pt.locs, Pt.cells, Pt.slots] at X3 l3 y3 z3 st3 hQ3
    subst l3 y3 z3
    obtain ⟨rfl, N3q, O3⟩ := hQ3
    have N3 := Fr.app N0 N3q
    obtain ⟨_, _, ⟨T4, L4, k4, n4⟩, -, X4, ⟨Lc4, hQ4, l4, y4, z4⟩, st4⟩ := Jvm.LawKit.callS X3 hx (y := own_m2) hown (mvT hZ (own_w hw 30 rfl)) (mvT hZ (own_w hw 31 rfl)) (mvT hZ (own_w hw 32 rfl)) (mvT hZ (own_w hw 33 rfl)) (by decide) (backOf (W := 1) (rm_ex l Z a0 hw [] p0 _ _ _ _ _ _ _ _ T3.heap n0 O3 hE) hZ (own_w hw 33 rfl) (own_w hw 32 rfl) (by decide) (by decide)) (g := (mkF m 30 #[.val (.int p0), .val (.int p1), .val (.int p0), .val (.ref (own_sel p0 a_BAD_REQUEST a_UNAUTHORIZED a_NOT_FOUND a_METHOD_NOT_ALLOWED a_NOT_ACCEPTABLE a_UNSUPPORTED_MEDIA_TYPE a_INTERNAL_SERVER_ERROR))] [(.int p0), (.ref (own_sel p0 a_BAD_REQUEST a_UNAUTHORIZED a_NOT_FOUND a_METHOD_NOT_ALLOWED a_NOT_ACCEPTABLE a_UNSUPPORTED_MEDIA_TYPE a_INTERNAL_SERVER_ERROR))])) rfl (by rw [hml]; rfl) (argsL := [(.int p0)]) (rest := [(.ref (own_sel p0 a_BAD_REQUEST a_UNAUTHORIZED a_NOT_FOUND a_METHOD_NOT_ALLOWED a_NOT_ACCEPTABLE a_UNSUPPORTED_MEDIA_TYPE a_INTERNAL_SERVER_ERROR))]) (lenOf pd__I_Lcom_example_entitlement_ledger_entitlementledger_service_ErrorCode_ rfl) rfl (by show 2 * 0 + _ ≤ _; exact Nat.le_of_eq rfl) (hb hby at_30) (fun _ _ => ⟨rfl, rfl, (by decide : 1 + 0 ≤ _), (by decide : 7 + 0 ≤ _)⟩)
    dsimp only [Pt.U, Pt.locs, Pt.cells, Pt.slots] at X4 l4 y4 z4 st4 hQ4
    subst l4 y4 z4
    obtain ⟨rfl, N4q, hp4⟩ := hQ4
    have N4 := Fr.app N3 N4q
    have k5 : ∀ t, own_At p e below m T4 41 #[.val (.int p0), .val (.int p1), .val (.int p0), .val (.ref (own_sel p0 a_BAD_REQUEST a_UNAUTHORIZED a_NOT_FOUND a_METHOD_NOT_ALLOWED a_NOT_ACCEPTABLE a_UNSUPPORTED_MEDIA_TYPE a_INTERNAL_SERVER_ERROR))] [(.int (1 : Int32))] t → own_En p e below m s₁ #[(.int p0), (.int p1)] maxLocals t := by
      intro t k
      refine k1 t ?_
      refine XS.ifNo X0.here hx rfl (hb hby at_3) rfl ((if0 _ _).trans (teq hc2).2) ?_
      show own_At p e below m s₁ 6 #[.val (.int p0), .val (.int p1), .unset, .unset] [] t
      refine XS.iloadN X0.here hx rfl (hb hby at_6) rfl ?_
      show own_At p e below m s₁ 7 #[.val (.int p0), .val (.int p1), .unset, .unset] [(.int p0)] t
      refine XS.istoreN X0.here hx rfl (hb hby at_7) rfl (l' := #[.val (.int p0), .val (.int p1), .val (.int p0), .unset]) rfl ?_
      show own_At p e below m s₁ 8 #[.val (.int p0), .val (.int p1), .val (.int p0), .unset] [] t
      refine XS.goto X0.here hx rfl (pc0 := 8) (pc' := 23) rfl (hb hby at_8) (by decide) (by decide) ?_
      show own_At p e below m s₁ 23 #[.val (.int p0), .val (.int p1), .val (.int p0), .unset] [] t
      refine XS.iloadN X0.here hx rfl (hb hby at_23) rfl ?_
      show own_At p e below m s₁ 24 #[.val (.int p0), .val (.int p1), .val (.int p0), .unset] [(.int p0)] t
      refine st3 _ ?_
      show own_At p e below m T3 27 #[.val (.int p0), .val (.int p1), .val (.int p0), .unset] [(.ref (own_sel p0 a_BAD_REQUEST a_UNAUTHORIZED a_NOT_FOUND a_METHOD_NOT_ALLOWED a_NOT_ACCEPTABLE a_UNSUPPORTED_MEDIA_TYPE a_INTERNAL_SERVER_ERROR))] t
      refine XS.astoreN X3.here hx rfl (hb hby at_27) rfl rfl (l' := #[.val (.int p0), .val (.int p1), .val (.int p0), .val (.ref (own_sel p0 a_BAD_REQUEST a_UNAUTHORIZED a_NOT_FOUND a_METHOD_NOT_ALLOWED a_NOT_ACCEPTABLE a_UNSUPPORTED_MEDIA_TYPE a_INTERNAL_SERVER_ERROR))]) rfl ?_
      show own_At p e below m T3 28 #[.val (.int p0), .val (.int p1), .val (.int p0), .val (.ref (own_sel p0 a_BAD_REQUEST a_UNAUTHORIZED a_NOT_FOUND a_METHOD_NOT_ALLOWED a_NOT_ACCEPTABLE a_UNSUPPORTED_MEDIA_TYPE a_INTERNAL_SERVER_ERROR))] [] t
      refine XS.aloadN X3.here hx rfl (hb hby at_28) rfl rfl ?_
      show own_At p e below m T3 29 #[.val (.int p0), .val (.int p1), .val (.int p0), .val (.ref (own_sel p0 a_BAD_REQUEST a_UNAUTHORIZED a_NOT_FOUND a_METHOD_NOT_ALLOWED a_NOT_ACCEPTABLE a_UNSUPPORTED_MEDIA_TYPE a_INTERNAL_SERVER_ERROR))] [(.ref (own_sel p0 a_BAD_REQUEST a_UNAUTHORIZED a_NOT_FOUND a_METHOD_NOT_ALLOWED a_NOT_ACCEPTABLE a_UNSUPPORTED_MEDIA_TYPE a_INTERNAL_SERVER_ERROR))] t
      refine XS.iloadN X3.here hx rfl (hb hby at_29) rfl ?_
      show own_At p e below m T3 30 #[.val (.int p0), .val (.int p1), .val (.int p0), .val (.ref (own_sel p0 a_BAD_REQUEST a_UNAUTHORIZED a_NOT_FOUND a_METHOD_NOT_ALLOWED a_NOT_ACCEPTABLE a_UNSUPPORTED_MEDIA_TYPE a_INTERNAL_SERVER_ERROR))] [(.int p0), (.ref (own_sel p0 a_BAD_REQUEST a_UNAUTHORIZED a_NOT_FOUND a_METHOD_NOT_ALLOWED a_NOT_ACCEPTABLE a_UNSUPPORTED_MEDIA_TYPE a_INTERNAL_SERVER_ERROR))] t
      refine st4 _ ?_
      show own_At p e below m T4 33 #[.val (.int p0), .val (.int p1), .val (.int p0), .val (.ref (own_sel p0 a_BAD_REQUEST a_UNAUTHORIZED a_NOT_FOUND a_METHOD_NOT_ALLOWED a_NOT_ACCEPTABLE a_UNSUPPORTED_MEDIA_TYPE a_INTERNAL_SERVER_ERROR))] [(.ref (own_sel p0 a_BAD_REQUEST a_UNAUTHORIZED a_NOT_FOUND a_METHOD_NOT_ALLOWED a_NOT_ACCEPTABLE a_UNSUPPORTED_MEDIA_TYPE a_INTERNAL_SERVER_ERROR)), (.ref (own_sel p0 a_BAD_REQUEST a_UNAUTHORIZED a_NOT_FOUND a_METHOD_NOT_ALLOWED a_NOT_ACCEPTABLE a_UNSUPPORTED_MEDIA_TYPE a_INTERNAL_SERVER_ERROR))] t
      refine Jvm.RoadKit.acmp (g := (mkF m 33 #[.val (.int p0), .val (.int p1), .val (.int p0), .val (.ref (own_sel p0 a_BAD_REQUEST a_UNAUTHORIZED a_NOT_FOUND a_METHOD_NOT_ALLOWED a_NOT_ACCEPTABLE a_UNSUPPORTED_MEDIA_TYPE a_INTERNAL_SERVER_ERROR))] [(.ref (own_sel p0 a_BAD_REQUEST a_UNAUTHORIZED a_NOT_FOUND a_METHOD_NOT_ALLOWED a_NOT_ACCEPTABLE a_UNSUPPORTED_MEDIA_TYPE a_INTERNAL_SERVER_ERROR)), (.ref (own_sel p0 a_BAD_REQUEST a_UNAUTHORIZED a_NOT_FOUND a_METHOD_NOT_ALLOWED a_NOT_ACCEPTABLE a_UNSUPPORTED_MEDIA_TYPE a_INTERNAL_SERVER_ERROR))])) X4 hx rfl rfl rfl (pc0 := 33) (pc' := 36) (same := true) rfl (hb hby at_33) rfl (decide_eq_true rfl) (by decide) (by decide) ?_
      show own_At p e below m T4 36 #[.val (.int p0), .val (.int p1), .val (.int p0), .val (.ref (own_sel p0 a_BAD_REQUEST a_UNAUTHORIZED a_NOT_FOUND a_METHOD_NOT_ALLOWED a_NOT_ACCEPTABLE a_UNSUPPORTED_MEDIA_TYPE a_INTERNAL_SERVER_ERROR))] [] t
      refine XS.iconst X4.here hx rfl (hb hby at_36) ?_
      show own_At p e below m T4 37 #[.val (.int p0), .val (.int p1), .val (.int p0), .val (.ref (own_sel p0 a_BAD_REQUEST a_UNAUTHORIZED a_NOT_FOUND a_METHOD_NOT_ALLOWED a_NOT_ACCEPTABLE a_UNSUPPORTED_MEDIA_TYPE a_INTERNAL_SERVER_ERROR))] [(.int (1 : Int32))] t
      refine XS.goto X4.here hx rfl (pc0 := 37) (pc' := 41) rfl (hb hby at_37) (by decide) (by decide) ?_
      show own_At p e below m T4 41 #[.val (.int p0), .val (.int p1), .val (.int p0), .val (.ref (own_sel p0 a_BAD_REQUEST a_UNAUTHORIZED a_NOT_FOUND a_METHOD_NOT_ALLOWED a_NOT_ACCEPTABLE a_UNSUPPORTED_MEDIA_TYPE a_INTERNAL_SERVER_ERROR))] [(.int (1 : Int32))] t
      exact k
    obtain ⟨fs, hr, hrun, hended, hW, hsame⟩ := X4.leave (v := some (.int (1 : Int32))) (fun h => by rw [Bd.returns] at h; cases h)
    refine hNG ⟨_, _, k5 _ ?_, hrun, hended, _, _, rfl, ?_, ⟨_, rfl⟩, hW, hsame.mono (by decide) (by decide)⟩
    · exact retN X4 hx (t := .boolean) Bd.returns (by simp) (hb hby at_41) hr
    · show Q_law Z p0 p1 a__VALUES a_BAD_REQUEST a_UNAUTHORIZED a_NOT_FOUND a_METHOD_NOT_ALLOWED a_NOT_ACCEPTABLE a_UNSUPPORTED_MEDIA_TYPE a_INTERNAL_SERVER_ERROR h0 n0 _ T4.heap _
      rw [hp4]
      exact ⟨rfl, N4⟩
  · obtain ⟨_, _, ⟨T6, L6, k6, n6⟩, -, X6, ⟨Lc6, hQ6, l6, y6, z6⟩, st6⟩ := Jvm.LawKit.callS X0 hx (y := own_m1) hown (mvT hZ (own_w hw 1 rfl)) (mvT hZ (own_w hw 2 rfl)) (mvT hZ (own_w hw 3 rfl)) (mvT hZ (own_w hw 4 rfl)) (by decide) (backOf (W := 0) (rm_fs l Z a0 hw [] ((395 : Int32) + ((p0 &&& (2147483647 : Int32)) % (125 : Int32))) _ _ _ _ _ _ _ _ h0 n0 O0 hE) hZ (own_w hw 4 rfl) (own_w hw 3 rfl) (by decide) (by decide)) (g := (mkF m 24 #[.val (.int p0), .val (.int p1), .val (.int ((395 : Int32) + ((p0 &&& (2147483647 : Int32)) % (125 : Int32)))), .unset] [(.int ((395 : Int32) + ((p0 &&& (2147483647 : Int32)) % (125 : Int32))))])) rfl (by rw [hml]; rfl) (argsL := [(.int ((395 : Int32) + ((p0 &&& (2147483647 : Int32)) % (125 : Int32))))]) (rest := []) (lenOf pd__I_Lcom_example_entitlement_ledger_entitlementledger_service_ErrorCode_ rfl) rfl (by show 2 * 0 + _ ≤ _; exact Nat.le_of_eq rfl) (hb hby at_24) (fun _ _ => ⟨rfl, e0, (by decide : 0 + 1 ≤ _), (by decide : 0 + 7 ≤ _)⟩)
    dsimp only [Pt.U, Pt.locs, Pt.cells, Pt.slots] at X6 l6 y6 z6 st6 hQ6
    subst l6 y6 z6
    obtain ⟨rfl, N6q, O6⟩ := hQ6
    have N6 := Fr.app N0 N6q
    obtain ⟨_, _, ⟨T7, L7, k7, n7⟩, -, X7, ⟨Lc7, hQ7, l7, y7, z7⟩, st7⟩ := Jvm.LawKit.callS X6 hx (y := own_m2) hown (mvT hZ (own_w hw 30 rfl)) (mvT hZ (own_w hw 31 rfl)) (mvT hZ (own_w hw 32 rfl)) (mvT hZ (own_w hw 33 rfl)) (by decide) (backOf (W := 1) (rm_ex l Z a0 hw [] ((395 : Int32) + ((p0 &&& (2147483647 : Int32)) % (125 : Int32))) _ _ _ _ _ _ _ _ T6.heap n0 O6 hE) hZ (own_w hw 33 rfl) (own_w hw 32 rfl) (by decide) (by decide)) (g := (mkF m 30 #[.val (.int p0), .val (.int p1), .val (.int ((395 : Int32) + ((p0 &&& (2147483647 : Int32)) % (125 : Int32)))), .val (.ref (own_sel ((395 : Int32) + ((p0 &&& (2147483647 : Int32)) % (125 : Int32))) a_BAD_REQUEST a_UNAUTHORIZED a_NOT_FOUND a_METHOD_NOT_ALLOWED a_NOT_ACCEPTABLE a_UNSUPPORTED_MEDIA_TYPE a_INTERNAL_SERVER_ERROR))] [(.int ((395 : Int32) + ((p0 &&& (2147483647 : Int32)) % (125 : Int32)))), (.ref (own_sel ((395 : Int32) + ((p0 &&& (2147483647 : Int32)) % (125 : Int32))) a_BAD_REQUEST a_UNAUTHORIZED a_NOT_FOUND a_METHOD_NOT_ALLOWED a_NOT_ACCEPTABLE a_UNSUPPORTED_MEDIA_TYPE a_INTERNAL_SERVER_ERROR))])) rfl (by rw [hml]; rfl) (argsL := [(.int ((395 : Int32) + ((p0 &&& (2147483647 : Int32)) % (125 : Int32))))]) (rest := [(.ref (own_sel ((395 : Int32) + ((p0 &&& (2147483647 : Int32)) % (125 : Int32))) a_BAD_REQUEST a_UNAUTHORIZED a_NOT_FOUND a_METHOD_NOT_ALLOWED a_NOT_ACCEPTABLE a_UNSUPPORTED_MEDIA_TYPE a_INTERNAL_SERVER_ERROR))]) (lenOf pd__I_Lcom_example_entitlement_ledger_entitlementledger_service_ErrorCode_ rfl) rfl (by show 2 * 0 + _ ≤ _; exact Nat.le_of_eq rfl) (hb hby at_30) (fun _ _ => ⟨rfl, rfl, (by decide : 1 + 0 ≤ _), (by decide : 7 + 0 ≤ _)⟩)
    dsimp only [Pt.U, Pt.locs, Pt.cells, Pt.slots] at X7 l7 y7 z7 st7 hQ7
    subst l7 y7 z7
    obtain ⟨rfl, N7q, hp7⟩ := hQ7
    have N7 := Fr.app N6 N7q
    have k8 : ∀ t, own_At p e below m T7 41 #[.val (.int p0), .val (.int p1), .val (.int ((395 : Int32) + ((p0 &&& (2147483647 : Int32)) % (125 : Int32)))), .val (.ref (own_sel ((395 : Int32) + ((p0 &&& (2147483647 : Int32)) % (125 : Int32))) a_BAD_REQUEST a_UNAUTHORIZED a_NOT_FOUND a_METHOD_NOT_ALLOWED a_NOT_ACCEPTABLE a_UNSUPPORTED_MEDIA_TYPE a_INTERNAL_SERVER_ERROR))] [(.int (1 : Int32))] t → own_En p e below m s₁ #[(.int p0), (.int p1)] maxLocals t := by
      intro t k
      refine k1 t ?_
      refine XS.ifYes X0.here hx rfl (pc0 := 3) (pc' := 11) rfl (hb hby at_3) rfl ((if0 _ _).trans (feq hc2).2) (by decide) (by decide) ?_
      show own_At p e below m s₁ 11 #[.val (.int p0), .val (.int p1), .unset, .unset] [] t
      refine XS.sipush X0.here hx rfl (hb hby at_11) ?_
      show own_At p e below m s₁ 14 #[.val (.int p0), .val (.int p1), .unset, .unset] [(.int (395 : Int32))] t
      refine XS.iloadN X0.here hx rfl (hb hby at_14) rfl ?_
      show own_At p e below m s₁ 15 #[.val (.int p0), .val (.int p1), .unset, .unset] [(.int p0), (.int (395 : Int32))] t
      refine X0.ldcI hx hown (mvT hZ (own_w hw 0 rfl)) rfl (hb hby at_15) ?_
      show own_At p e below m s₁ 17 #[.val (.int p0), .val (.int p1), .unset, .unset] [(.int (2147483647 : Int32)), (.int p0), (.int (395 : Int32))] t
      refine XS.iand X0.here hx rfl (hb hby at_17) rfl ?_
      show own_At p e below m s₁ 18 #[.val (.int p0), .val (.int p1), .unset, .unset] [(.int (p0 &&& (2147483647 : Int32))), (.int (395 : Int32))] t
      refine XS.bipush X0.here hx rfl (hb hby at_18) ?_
      show own_At p e below m s₁ 20 #[.val (.int p0), .val (.int p1), .unset, .unset] [(.int (125 : Int32)), (.int (p0 &&& (2147483647 : Int32))), (.int (395 : Int32))] t
      refine iremM X0 hx rfl (hb hby at_20) rfl (by decide) ?_
      show own_At p e below m s₁ 21 #[.val (.int p0), .val (.int p1), .unset, .unset] [(.int ((p0 &&& (2147483647 : Int32)) % (125 : Int32))), (.int (395 : Int32))] t
      refine XS.iadd X0.here hx rfl (hb hby at_21) rfl ?_
      show own_At p e below m s₁ 22 #[.val (.int p0), .val (.int p1), .unset, .unset] [(.int ((395 : Int32) + ((p0 &&& (2147483647 : Int32)) % (125 : Int32))))] t
      refine XS.istoreN X0.here hx rfl (hb hby at_22) rfl (l' := #[.val (.int p0), .val (.int p1), .val (.int ((395 : Int32) + ((p0 &&& (2147483647 : Int32)) % (125 : Int32)))), .unset]) rfl ?_
      show own_At p e below m s₁ 23 #[.val (.int p0), .val (.int p1), .val (.int ((395 : Int32) + ((p0 &&& (2147483647 : Int32)) % (125 : Int32)))), .unset] [] t
      refine XS.iloadN X0.here hx rfl (hb hby at_23) rfl ?_
      show own_At p e below m s₁ 24 #[.val (.int p0), .val (.int p1), .val (.int ((395 : Int32) + ((p0 &&& (2147483647 : Int32)) % (125 : Int32)))), .unset] [(.int ((395 : Int32) + ((p0 &&& (2147483647 : Int32)) % (125 : Int32))))] t
      refine st6 _ ?_
      show own_At p e below m T6 27 #[.val (.int p0), .val (.int p1), .val (.int ((395 : Int32) + ((p0 &&& (2147483647 : Int32)) % (125 : Int32)))), .unset] [(.ref (own_sel ((395 : Int32) + ((p0 &&& (2147483647 : Int32)) % (125 : Int32))) a_BAD_REQUEST a_UNAUTHORIZED a_NOT_FOUND a_METHOD_NOT_ALLOWED a_NOT_ACCEPTABLE a_UNSUPPORTED_MEDIA_TYPE a_INTERNAL_SERVER_ERROR))] t
      refine XS.astoreN X6.here hx rfl (hb hby at_27) rfl rfl (l' := #[.val (.int p0), .val (.int p1), .val (.int ((395 : Int32) + ((p0 &&& (2147483647 : Int32)) % (125 : Int32)))), .val (.ref (own_sel ((395 : Int32) + ((p0 &&& (2147483647 : Int32)) % (125 : Int32))) a_BAD_REQUEST a_UNAUTHORIZED a_NOT_FOUND a_METHOD_NOT_ALLOWED a_NOT_ACCEPTABLE a_UNSUPPORTED_MEDIA_TYPE a_INTERNAL_SERVER_ERROR))]) rfl ?_
      show own_At p e below m T6 28 #[.val (.int p0), .val (.int p1), .val (.int ((395 : Int32) + ((p0 &&& (2147483647 : Int32)) % (125 : Int32)))), .val (.ref (own_sel ((395 : Int32) + ((p0 &&& (2147483647 : Int32)) % (125 : Int32))) a_BAD_REQUEST a_UNAUTHORIZED a_NOT_FOUND a_METHOD_NOT_ALLOWED a_NOT_ACCEPTABLE a_UNSUPPORTED_MEDIA_TYPE a_INTERNAL_SERVER_ERROR))] [] t
      refine XS.aloadN X6.here hx rfl (hb hby at_28) rfl rfl ?_
      show own_At p e below m T6 29 #[.val (.int p0), .val (.int p1), .val (.int ((395 : Int32) + ((p0 &&& (2147483647 : Int32)) % (125 : Int32)))), .val (.ref (own_sel ((395 : Int32) + ((p0 &&& (2147483647 : Int32)) % (125 : Int32))) a_BAD_REQUEST a_UNAUTHORIZED a_NOT_FOUND a_METHOD_NOT_ALLOWED a_NOT_ACCEPTABLE a_UNSUPPORTED_MEDIA_TYPE a_INTERNAL_SERVER_ERROR))] [(.ref (own_sel ((395 : Int32) + ((p0 &&& (2147483647 : Int32)) % (125 : Int32))) a_BAD_REQUEST a_UNAUTHORIZED a_NOT_FOUND a_METHOD_NOT_ALLOWED a_NOT_ACCEPTABLE a_UNSUPPORTED_MEDIA_TYPE a_INTERNAL_SERVER_ERROR))] t
      refine XS.iloadN X6.here hx rfl (hb hby at_29) rfl ?_
      show own_At p e below m T6 30 #[.val (.int p0), .val (.int p1), .val (.int ((395 : Int32) + ((p0 &&& (2147483647 : Int32)) % (125 : Int32)))), .val (.ref (own_sel ((395 : Int32) + ((p0 &&& (2147483647 : Int32)) % (125 : Int32))) a_BAD_REQUEST a_UNAUTHORIZED a_NOT_FOUND a_METHOD_NOT_ALLOWED a_NOT_ACCEPTABLE a_UNSUPPORTED_MEDIA_TYPE a_INTERNAL_SERVER_ERROR))] [(.int ((395 : Int32) + ((p0 &&& (2147483647 : Int32)) % (125 : Int32)))), (.ref (own_sel ((395 : Int32) + ((p0 &&& (2147483647 : Int32)) % (125 : Int32))) a_BAD_REQUEST a_UNAUTHORIZED a_NOT_FOUND a_METHOD_NOT_ALLOWED a_NOT_ACCEPTABLE a_UNSUPPORTED_MEDIA_TYPE a_INTERNAL_SERVER_ERROR))] t
      refine st7 _ ?_
      show own_At p e below m T7 33 #[.val (.int p0), .val (.int p1), .val (.int ((395 : Int32) + ((p0 &&& (2147483647 : Int32)) % (125 : Int32)))), .val (.ref (own_sel ((395 : Int32) + ((p0 &&& (2147483647 : Int32)) % (125 : Int32))) a_BAD_REQUEST a_UNAUTHORIZED a_NOT_FOUND a_METHOD_NOT_ALLOWED a_NOT_ACCEPTABLE a_UNSUPPORTED_MEDIA_TYPE a_INTERNAL_SERVER_ERROR))] [(.ref (own_sel ((395 : Int32) + ((p0 &&& (2147483647 : Int32)) % (125 : Int32))) a_BAD_REQUEST a_UNAUTHORIZED a_NOT_FOUND a_METHOD_NOT_ALLOWED a_NOT_ACCEPTABLE a_UNSUPPORTED_MEDIA_TYPE a_INTERNAL_SERVER_ERROR)), (.ref (own_sel ((395 : Int32) + ((p0 &&& (2147483647 : Int32)) % (125 : Int32))) a_BAD_REQUEST a_UNAUTHORIZED a_NOT_FOUND a_METHOD_NOT_ALLOWED a_NOT_ACCEPTABLE a_UNSUPPORTED_MEDIA_TYPE a_INTERNAL_SERVER_ERROR))] t
      refine Jvm.RoadKit.acmp (g := (mkF m 33 #[.val (.int p0), .val (.int p1), .val (.int ((395 : Int32) + ((p0 &&& (2147483647 : Int32)) % (125 : Int32)))), .val (.ref (own_sel ((395 : Int32) + ((p0 &&& (2147483647 : Int32)) % (125 : Int32))) a_BAD_REQUEST a_UNAUTHORIZED a_NOT_FOUND a_METHOD_NOT_ALLOWED a_NOT_ACCEPTABLE a_UNSUPPORTED_MEDIA_TYPE a_INTERNAL_SERVER_ERROR))] [(.ref (own_sel ((395 : Int32) + ((p0 &&& (2147483647 : Int32)) % (125 : Int32))) a_BAD_REQUEST a_UNAUTHORIZED a_NOT_FOUND a_METHOD_NOT_ALLOWED a_NOT_ACCEPTABLE a_UNSUPPORTED_MEDIA_TYPE a_INTERNAL_SERVER_ERROR)), (.ref (own_sel ((395 : Int32) + ((p0 &&& (2147483647 : Int32)) % (125 : Int32))) a_BAD_REQUEST a_UNAUTHORIZED a_NOT_FOUND a_METHOD_NOT_ALLOWED a_NOT_ACCEPTABLE a_UNSUPPORTED_MEDIA_TYPE a_INTERNAL_SERVER_ERROR))])) X7 hx rfl rfl rfl (pc0 := 33) (pc' := 36) (same := true) rfl (hb hby at_33) rfl (decide_eq_true rfl) (by decide) (by decide) ?_
      show own_At p e below m T7 36 #[.val (.int p0), .val (.int p1), .val (.int ((395 : Int32) + ((p0 &&& (2147483647 : Int32)) % (125 : Int32)))), .val (.ref (own_sel ((395 : Int32) + ((p0 &&& (2147483647 : Int32)) % (125 : Int32))) a_BAD_REQUEST a_UNAUTHORIZED a_NOT_FOUND a_METHOD_NOT_ALLOWED a_NOT_ACCEPTABLE a_UNSUPPORTED_MEDIA_TYPE a_INTERNAL_SERVER_ERROR))] [] t
      refine XS.iconst X7.here hx rfl (hb hby at_36) ?_
      show own_At p e below m T7 37 #[.val (.int p0), .val (.int p1), .val (.int ((395 : Int32) + ((p0 &&& (2147483647 : Int32)) % (125 : Int32)))), .val (.ref (own_sel ((395 : Int32) + ((p0 &&& (2147483647 : Int32)) % (125 : Int32))) a_BAD_REQUEST a_UNAUTHORIZED a_NOT_FOUND a_METHOD_NOT_ALLOWED a_NOT_ACCEPTABLE a_UNSUPPORTED_MEDIA_TYPE a_INTERNAL_SERVER_ERROR))] [(.int (1 : Int32))] t
      refine XS.goto X7.here hx rfl (pc0 := 37) (pc' := 41) rfl (hb hby at_37) (by decide) (by decide) ?_
      show own_At p e below m T7 41 #[.val (.int p0), .val (.int p1), .val (.int ((395 : Int32) + ((p0 &&& (2147483647 : Int32)) % (125 : Int32)))), .val (.ref (own_sel ((395 : Int32) + ((p0 &&& (2147483647 : Int32)) % (125 : Int32))) a_BAD_REQUEST a_UNAUTHORIZED a_NOT_FOUND a_METHOD_NOT_ALLOWED a_NOT_ACCEPTABLE a_UNSUPPORTED_MEDIA_TYPE a_INTERNAL_SERVER_ERROR))] [(.int (1 : Int32))] t
      exact k
    obtain ⟨fs, hr, hrun, hended, hW, hsame⟩ := X7.leave (v := some (.int (1 : Int32))) (fun h => by rw [Bd.returns] at h; cases h)
    refine hNG ⟨_, _, k8 _ ?_, hrun, hended, _, _, rfl, ?_, ⟨_, rfl⟩, hW, hsame.mono (by decide) (by decide)⟩
    · exact retN X7 hx (t := .boolean) Bd.returns (by simp) (hb hby at_41) hr
    · show Q_law Z p0 p1 a__VALUES a_BAD_REQUEST a_UNAUTHORIZED a_NOT_FOUND a_METHOD_NOT_ALLOWED a_NOT_ACCEPTABLE a_UNSUPPORTED_MEDIA_TYPE a_INTERNAL_SERVER_ERROR h0 n0 _ T7.heap _
      rw [hp7]
      exact ⟨rfl, N7⟩
set_option maxRecDepth 65536 in
set_option maxHeartbeats 40000000 in
theorem comes_1 {Post : Tables → Env → Array Value → State → Outcome → State → Prop} (hpost : ∀ tb e args s v u, (limb_1_1.after args s (.returned v) u = true ∧ limb_1_2.after args s (.returned v) u = true ∧ True) → FrameEnd s (.returned v) u (Jvm.fieldLocs frame_1_writes args s ++ Jvm.arrayLocs frame_1_arrays args s ++ Jvm.staticLocs frame_1_statics s) 16 128 → Post tb e args s (.returned v) u) :
    ArmFor flags0 classFile x code maxLocals ret World_1 tables_1 room_1 Calls_1 rest_1 Pre_1 Post := by
  intro l hfl _ _ p e ha hc hk s m args below hf hA hF happ hP
  obtain ⟨hcalls, hrest, hpre⟩ := hP
  obtain ⟨-, -, -, hnamed, -, -, -, hat⟩ := (Spec.applies_iff hf).mp happ
  obtain ⟨hg, hn⟩ := and_e (Cond.before_iff.mp (show (Jvm.Cond.and given_1 narrow_1).before args s = true from hpre))
  obtain ⟨g0a, g0b⟩ := and_e hg
  obtain ⟨g1a, g1b⟩ := and_e g0b
  obtain ⟨w0, w1, rfl⟩ : ∃ w0 w1 : Value, args = #[w0, w1] := by
    have hs : args.size = 2 := by simpa [Cond.value, given_1] using g0a
    obtain ⟨L⟩ := args
    match L, hs with
    | [w0, w1], _ => exact ⟨w0, w1, rfl⟩
  have hw := fun d (hd : d ∈ tables_1) => atoms_spec (ws := Jvm.Cond.code x code maxLocals ret :: tables_1) hat d (List.mem_cons_of_mem _ hd)
  have hfit : Fit s := fun {y c} hc i hi => by
    obtain ⟨ha, rfl⟩ := Array.getElem?_eq_some_iff.mp hc
    have q := List.all_eq_true.mp ((Array.all_eq_true_iff_forall_mem.mp hF) _ (Array.getElem_mem ha)) i (List.mem_range.mpr hi)
    simpa [Array.getElem?_eq_getElem hi] using q
  obtain ⟨i0, ei0⟩ := is_v g1a
  obtain rfl : w0 = (.int i0) := Option.some.inj ei0
  obtain ⟨i1, ei1⟩ := is_v g1b
  obtain rfl : w1 = (.int i1) := Option.some.inj ei1
  obtain ⟨hn1a, hn1b⟩ := and_e hn
  obtain ⟨hn2a, hn2b⟩ := and_e hn1b
  obtain ⟨hn3a, hn3b⟩ := and_e hn2b
  obtain ⟨hn4a, hn4b⟩ := and_e hn3b
  obtain ⟨hn5a, hn5b⟩ := and_e hn4b
  obtain ⟨hn6a, hn6b⟩ := and_e hn5b
  obtain ⟨hn7a, hn7b⟩ := and_e hn6b
  obtain ⟨hn8a, hn8b⟩ := and_e hn7b
  obtain ⟨hn9a, hn9b⟩ := and_e hn8b
  obtain ⟨hn10a, hn10b⟩ := and_e hn9b
  obtain ⟨hn11a, hn11b⟩ := and_e hn10b
  obtain ⟨hn12a, hn12b⟩ := and_e hn11b
  obtain ⟨hn13a, hn13b⟩ := and_e hn12b
  obtain ⟨hn14a, hn14b⟩ := and_e hn13b
  obtain ⟨hn15a, hn15b⟩ := and_e hn14b
  obtain ⟨hn16a, hn16b⟩ := and_e hn15b
  obtain ⟨hn17a, hn17b⟩ := and_e hn16b
  obtain ⟨hn18a, hn18b⟩ := and_e hn17b
  obtain ⟨hn19a, hn19b⟩ := and_e hn18b
  obtain ⟨hn20a, hn20b⟩ := and_e hn19b
  obtain ⟨hn21a, hn21b⟩ := and_e hn20b
  obtain ⟨hn22a, hn22b⟩ := and_e hn21b
  obtain ⟨hn23a, hn23b⟩ := and_e hn22b
  obtain ⟨a__VALUES, v_a__VALUES⟩ := arr_v hn1a
  have S__VALUES := Sta.start v_a__VALUES (Or.inr ⟨(own_w hw 3 rfl), (own_w hw 9 rfl)⟩)
  have E__VALUES := Exa.start v_a__VALUES hn2a
  obtain ⟨a_BAD_REQUEST, v_a_BAD_REQUEST⟩ := exa_v hn4a
  have S_BAD_REQUEST := Sta.start v_a_BAD_REQUEST (Or.inr ⟨(own_w hw 3 rfl), (own_w hw 17 rfl)⟩)
  have E_BAD_REQUEST := Exa.start v_a_BAD_REQUEST hn4a
  obtain ⟨a_UNAUTHORIZED, v_a_UNAUTHORIZED⟩ := exa_v hn6a
  have S_UNAUTHORIZED := Sta.start v_a_UNAUTHORIZED (Or.inr ⟨(own_w hw 3 rfl), (own_w hw 18 rfl)⟩)
  have E_UNAUTHORIZED := Exa.start v_a_UNAUTHORIZED hn6a
  obtain ⟨a_NOT_FOUND, v_a_NOT_FOUND⟩ := exa_v hn8a
  have S_NOT_FOUND := Sta.start v_a_NOT_FOUND (Or.inr ⟨(own_w hw 3 rfl), (own_w hw 19 rfl)⟩)
  have E_NOT_FOUND := Exa.start v_a_NOT_FOUND hn8a
  obtain ⟨a_METHOD_NOT_ALLOWED, v_a_METHOD_NOT_ALLOWED⟩ := exa_v hn10a
  have S_METHOD_NOT_ALLOWED := Sta.start v_a_METHOD_NOT_ALLOWED (Or.inr ⟨(own_w hw 3 rfl), (own_w hw 20 rfl)⟩)
  have E_METHOD_NOT_ALLOWED := Exa.start v_a_METHOD_NOT_ALLOWED hn10a
  obtain ⟨a_NOT_ACCEPTABLE, v_a_NOT_ACCEPTABLE⟩ := exa_v hn12a
  have S_NOT_ACCEPTABLE := Sta.start v_a_NOT_ACCEPTABLE (Or.inr ⟨(own_w hw 3 rfl), (own_w hw 21 rfl)⟩)
  have E_NOT_ACCEPTABLE := Exa.start v_a_NOT_ACCEPTABLE hn12a
  obtain ⟨a_UNSUPPORTED_MEDIA_TYPE, v_a_UNSUPPORTED_MEDIA_TYPE⟩ := exa_v hn14a
  have S_UNSUPPORTED_MEDIA_TYPE := Sta.start v_a_UNSUPPORTED_MEDIA_TYPE (Or.inr ⟨(own_w hw 3 rfl), (own_w hw 22 rfl)⟩)
  have E_UNSUPPORTED_MEDIA_TYPE := Exa.start v_a_UNSUPPORTED_MEDIA_TYPE hn14a
  obtain ⟨a_INTERNAL_SERVER_ERROR, v_a_INTERNAL_SERVER_ERROR⟩ := exa_v hn16a
  have S_INTERNAL_SERVER_ERROR := Sta.start v_a_INTERNAL_SERVER_ERROR (Or.inr ⟨(own_w hw 3 rfl), (own_w hw 23 rfl)⟩)
  have E_INTERNAL_SERVER_ERROR := Exa.start v_a_INTERNAL_SERVER_ERROR hn16a
  have F_BAD_REQUEST_httpStatus := Fld.start ((fld_at v_a_BAD_REQUEST).symm.trans (own_eqI hn18a))
  have F_UNAUTHORIZED_httpStatus := Fld.start ((fld_at v_a_UNAUTHORIZED).symm.trans (own_eqI hn19a))
  have F_NOT_FOUND_httpStatus := Fld.start ((fld_at v_a_NOT_FOUND).symm.trans (own_eqI hn20a))
  have F_METHOD_NOT_ALLOWED_httpStatus := Fld.start ((fld_at v_a_METHOD_NOT_ALLOWED).symm.trans (own_eqI hn21a))
  have F_NOT_ACCEPTABLE_httpStatus := Fld.start ((fld_at v_a_NOT_ACCEPTABLE).symm.trans (own_eqI hn22a))
  have F_UNSUPPORTED_MEDIA_TYPE_httpStatus := Fld.start ((fld_at v_a_UNSUPPORTED_MEDIA_TYPE).symm.trans (own_eqI hn23a))
  have F_INTERNAL_SERVER_ERROR_httpStatus := Fld.start ((fld_at v_a_INTERNAL_SERVER_ERROR).symm.trans (own_eqI hn23b))
  obtain ⟨cc_a__VALUES, cA_a__VALUES⟩ := Arr.start v_a__VALUES hn1a
  have C__VALUES := own_Cln.start (dv := .null) (vs := [(.ref a_BAD_REQUEST), (.ref a_UNAUTHORIZED), (.ref a_NOT_FOUND), (.ref a_METHOD_NOT_ALLOWED), (.ref a_NOT_ACCEPTABLE), (.ref a_UNSUPPORTED_MEDIA_TYPE), (.ref a_INTERNAL_SERVER_ERROR)]) hfit cA_a__VALUES (own_len v_a__VALUES cA_a__VALUES hn3a) (by decide) rfl ⟨own_elem v_a__VALUES cA_a__VALUES (own_eqR hn5a v_a_BAD_REQUEST) 0 (by decide), own_elem v_a__VALUES cA_a__VALUES (own_eqR hn7a v_a_UNAUTHORIZED) 1 (by decide), own_elem v_a__VALUES cA_a__VALUES (own_eqR hn9a v_a_NOT_FOUND) 2 (by decide), own_elem v_a__VALUES cA_a__VALUES (own_eqR hn11a v_a_METHOD_NOT_ALLOWED) 3 (by decide), own_elem v_a__VALUES cA_a__VALUES (own_eqR hn13a v_a_NOT_ACCEPTABLE) 4 (by decide), own_elem v_a__VALUES cA_a__VALUES (own_eqR hn15a v_a_UNSUPPORTED_MEDIA_TYPE) 5 (by decide), own_elem v_a__VALUES cA_a__VALUES (own_eqR hn17a v_a_INTERNAL_SERVER_ERROR) 6 (by decide), trivial⟩
  obtain ⟨n, o, h1, h2, h3, _, L, rfl, ⟨rfl, N⟩, hq⟩ := rm_law l s _ hw tables_1 i0 i1 a__VALUES a_BAD_REQUEST a_UNAUTHORIZED a_NOT_FOUND a_METHOD_NOT_ALLOWED a_NOT_ACCEPTABLE a_UNSUPPORTED_MEDIA_TYPE a_INTERNAL_SERVER_ERROR s.heap s.heap.size (Old.start s) ⟨S__VALUES, E__VALUES, S_BAD_REQUEST, E_BAD_REQUEST, S_UNAUTHORIZED, E_UNAUTHORIZED, S_NOT_FOUND, E_NOT_FOUND, S_METHOD_NOT_ALLOWED, E_METHOD_NOT_ALLOWED, S_NOT_ACCEPTABLE, E_NOT_ACCEPTABLE, S_UNSUPPORTED_MEDIA_TYPE, E_UNSUPPORTED_MEDIA_TYPE, S_INTERNAL_SERVER_ERROR, E_INTERNAL_SERVER_ERROR, F_BAD_REQUEST_httpStatus, F_UNAUTHORIZED_httpStatus, F_NOT_FOUND_httpStatus, F_METHOD_NOT_ALLOWED_httpStatus, F_NOT_ACCEPTABLE_httpStatus, F_UNSUPPORTED_MEDIA_TYPE_httpStatus, F_INTERNAL_SERVER_ERROR_httpStatus, C__VALUES⟩  p e ha hc hk s m _ below hf ((Spec.applies_iff_loose hf).mp happ).1 ⟨rfl, State.Warmed39.refl s, rfl⟩ trivial
  refine ⟨n, _, h1, h2, h3, hpost _ _ _ _ _ _ ⟨Cond.after_iff.mpr rfl, Cond.after_iff.mpr (eq_i res_at (Term.int_eval (1)) rfl), trivial⟩ ⟨hq.1, hq.2.1, (hq.2.2.sift fun y hy => Or.inr (N y hy)).mono (by decide) (by decide)⟩⟩
theorem main_1_1 : Claimed_1_1 := comes_1 fun _ _ _ _ _ _ h hF => ⟨h.1, hF⟩
theorem main_1_2 : Claimed_1_2 := comes_1 fun _ _ _ _ _ _ h hF => ⟨h.2.1, hF⟩
end Jvm.Pilot.@@N@@
namespace Jvm.Pilot.@@N@@
open Jvm Jvm.ClassFile Sem Op Lib Jvm.Free Jvm.Stand Jvm.Pilot.@@N@@.Jvm.D
/-! MADE BY PROGRAM (witnessworld.py) out of the Statement's table words and the real class files: 13 classes; the members and pool entries that the words name. The judged class is class 1, her method 1. -/
namespace start1
open Jvm.ClassFile
def u (s : String) : CpInfo := .utf8 (stringToUtf16 s)
/-- a pool by its gaps: so many unusable entries, then the entry; so many at the end -/
def gap : Nat → List CpInfo → List CpInfo
  | 0, r => r
  | n + 1, r => .unusable :: gap n r
def poolList (es : List (Nat × CpInfo)) (last : Nat) : List CpInfo := es.foldr (fun e r => gap e.1 (e.2 :: r)) (gap last [])
def pool (es : List (Nat × CpInfo)) (last : Nat) : Array CpInfo := ⟨poolList es last⟩
def fileOf (pool : Array CpInfo) (this : Nat) (attrs : Array Attribute := #[]) (ms : Array MethodInfo := #[]) (fl : Nat := 33) (sup : Nat := 0) (ifs : Array Nat := #[]) (fds : Array FieldInfo := #[]) : ClassFile where
  minorVersion := 0
  majorVersion := 65
  constantPool := pool
  accessFlags := fl
  thisClass := this
  superClass := sup
  interfaces := ifs
  fields := fds
  methods := ms
  attributes := attrs
def plain (name : String) (sup : Option ClassId) : Class where
  name := name
  kind := .ordinary
  loader := none
  accessFlags := 33
  super := sup
  interfaces := #[]
  cf := none
  fields := #[]
  methods := #[]
  instanceTypes := #[]
  staticTypes := #[]
  resolved := #[]
  callSites := []
  init := .initialized
  statics := none
  mirror := none

def pool0 : Array CpInfo := pool [(5, u "<init>"), (0, u "()V"), (1, .class_ 10), (1, u "java/lang/Object"), (85, u "clone"), (0, u "()Ljava/lang/Object;")] 26

def k0m0 : Method := { name := "<init>", desc := "()V", sig := { parameters := [], returnType := none }, accessFlags := 1, code := none }
def k0m1 : Method := { name := "clone", desc := "()Ljava/lang/Object;", sig := { parameters := [], returnType := some (.object "java/lang/Object") }, accessFlags := 260, code := none }
/-- java/lang/Object -/
def k0 : Class := { plain "java/lang/Object" none with
  accessFlags := 33
  interfaces := #[]
  cf := some (fileOf pool0 8 #[] #[{ accessFlags := 1, nameIndex := 5, descriptorIndex := 6, attributes := #[] }, { accessFlags := 260, nameIndex := 96, descriptorIndex := 97, attributes := #[] }] 33 0 #[] #[])
  fields := #[]
  methods := #[k0m0, k0m1]
  instanceTypes := #[]
  staticTypes := #[]
  resolved := Array.replicate 124 none
  statics := none }

def pool1 : Array CpInfo := pool [(2, .class_ 4), (1, u "java/lang/Object"), (0, u "<init>"), (0, u "()V"), (0, .integer 2147483647), (0, .methodref 9 10), (0, .class_ 11), (0, .nameAndType 12 13), (0, u "com/example/entitlement_ledger/entitlementledger/service/ErrorCode"), (0, u "forStatus"), (0, u "(I)Lcom/example/entitlement_ledger/entitlementledger/service/ErrorCode;"), (0, .methodref 15 16), (0, .class_ 17), (0, .nameAndType 18 13), (0, u "com/example/entitlement_ledger/entitlementledger/service/ErrorCodeForStatusPinLaw"), (0, u "expected"), (0, .fieldref 9 20), (0, .nameAndType 21 22), (0, u "BAD_REQUEST"), (0, u "Lcom/example/entitlement_ledger/entitlementledger/service/ErrorCode;"), (0, .fieldref 9 24), (0, .nameAndType 25 22), (0, u "UNAUTHORIZED"), (0, .fieldref 9 27), (0, .nameAndType 28 22), (0, u "NOT_FOUND"), (0, .fieldref 9 30), (0, .nameAndType 31 22), (0, u "METHOD_NOT_ALLOWED"), (0, .fieldref 9 33), (0, .nameAndType 34 22), (0, u "NOT_ACCEPTABLE"), (0, .fieldref 9 36), (0, .nameAndType 37 22), (0, u "UNSUPPORTED_MEDIA_TYPE"), (0, .fieldref 9 39), (0, .nameAndType 40 22), (0, u "INTERNAL_SERVER_ERROR"), (2, u "law"), (0, u "(II)Z")] 3

def k1m0 : Method := { name := "<init>", desc := "()V", sig := { parameters := [], returnType := none }, accessFlags := 1, code := none }
def k1c1 : Code := { maxStack := 3, maxLocals := 4, code := code, exceptionTable := #[], attributes := #[] }
def k1m1 : Method := { name := "law", desc := "(II)Z", sig := { parameters := [.int, .int], returnType := some .boolean }, accessFlags := 9, code := some k1c1 }
def k1c2 : Code := { maxStack := 2, maxLocals := 1, code := method_3_code, exceptionTable := #[], attributes := #[] }
def k1m2 : Method := { name := "expected", desc := "(I)Lcom/example/entitlement_ledger/entitlementledger/service/ErrorCode;", sig := { parameters := [.int], returnType := some (.object "com/example/entitlement_ledger/entitlementledger/service/ErrorCode") }, accessFlags := 10, code := some k1c2 }
/-- com/example/entitlement_ledger/entitlementledger/service/ErrorCodeForStatusPinLaw -/
def k1 : Class := { plain "com/example/entitlement_ledger/entitlementledger/service/ErrorCodeForStatusPinLaw" (some 0) with
  accessFlags := 49
  interfaces := #[]
  cf := some (fileOf pool1 15 #[] #[{ accessFlags := 1, nameIndex := 5, descriptorIndex := 6, attributes := #[] }, { accessFlags := 9, nameIndex := 43, descriptorIndex := 44, attributes := #[] }, { accessFlags := 10, nameIndex := 18, descriptorIndex := 13, attributes := #[] }] 49 2 #[] #[])
  fields := #[]
  methods := #[k1m0, k1m1, k1m2]
  instanceTypes := #[]
  staticTypes := #[]
  resolved := Array.replicate 48 none
  statics := none }

def pool2 : Array CpInfo := pool [(1, .class_ 2), (0, u "java/lang/constant/Constable"), (0, .class_ 4), (0, u "java/lang/Object")] 6

/-- java/lang/constant/Constable -/
def k2 : Class := { plain "java/lang/constant/Constable" (some 0) with
  accessFlags := 1537
  interfaces := #[]
  cf := some (fileOf pool2 1 #[] #[] 1537 3 #[] #[])
  fields := #[]
  methods := #[]
  instanceTypes := #[]
  staticTypes := #[]
  resolved := Array.replicate 11 none
  statics := none }

def pool3 : Array CpInfo := pool [(1, .class_ 2), (0, u "java/lang/Comparable"), (0, .class_ 4), (0, u "java/lang/Object")] 7

/-- java/lang/Comparable -/
def k3 : Class := { plain "java/lang/Comparable" (some 0) with
  accessFlags := 1537
  interfaces := #[]
  cf := some (fileOf pool3 1 #[] #[] 1537 3 #[] #[])
  fields := #[]
  methods := #[]
  instanceTypes := #[]
  staticTypes := #[]
  resolved := Array.replicate 12 none
  statics := none }

def pool4 : Array CpInfo := pool [(1, .class_ 2), (0, u "java/io/Serializable"), (0, .class_ 4), (0, u "java/lang/Object")] 2

/-- java/io/Serializable -/
def k4 : Class := { plain "java/io/Serializable" (some 0) with
  accessFlags := 1537
  interfaces := #[]
  cf := some (fileOf pool4 1 #[] #[] 1537 3 #[] #[])
  fields := #[]
  methods := #[]
  instanceTypes := #[]
  staticTypes := #[]
  resolved := Array.replicate 7 none
  statics := none }

def pool5 : Array CpInfo := pool [(2, .class_ 4), (1, u "java/lang/Enum"), (0, u "name"), (0, u "Ljava/lang/String;"), (2, u "ordinal"), (0, u "I"), (1, .class_ 14), (1, u "java/lang/Object"), (4, u "hash"), (86, .class_ 108), (1, u "java/lang/Enum$EnumDesc"), (2, .class_ 112), (0, u "java/lang/constant/Constable"), (0, .class_ 114), (0, u "java/lang/Comparable"), (0, .class_ 116), (0, u "java/io/Serializable")] 87

/-- java/lang/Enum -/
def k5 : Class := { plain "java/lang/Enum" (some 0) with
  accessFlags := 1057
  interfaces := #[2, 3, 4]
  cf := some (fileOf pool5 2 #[.nestMembers #[106]] #[] 1057 12 #[111, 113, 115] #[{ accessFlags := 18, nameIndex := 5, descriptorIndex := 6, attributes := #[] }, { accessFlags := 18, nameIndex := 9, descriptorIndex := 10, attributes := #[] }, { accessFlags := 2, nameIndex := 19, descriptorIndex := 10, attributes := #[] }])
  fields := #[{ name := "name", type := (.object "java/lang/String"), accessFlags := 18, slot := 0, constantValue := 0 }, { name := "ordinal", type := .int, accessFlags := 18, slot := 1, constantValue := 0 }, { name := "hash", type := .int, accessFlags := 2, slot := 2, constantValue := 0 }]
  methods := #[]
  instanceTypes := #[(.object "java/lang/String"), .int, .int]
  staticTypes := #[]
  resolved := Array.replicate 204 none
  statics := none }

def pool6 : Array CpInfo := pool [(1, .class_ 2), (0, u "com/example/entitlement_ledger/entitlementledger/service/ErrorCode"), (0, .fieldref 1 4), (0, .nameAndType 5 6), (0, u "BAD_REQUEST"), (0, u "Lcom/example/entitlement_ledger/entitlementledger/service/ErrorCode;"), (2, u "UNAUTHORIZED"), (2, u "NOT_FOUND"), (2, u "METHOD_NOT_ALLOWED"), (2, u "NOT_ACCEPTABLE"), (2, u "UNSUPPORTED_MEDIA_TYPE"), (0, .fieldref 1 23), (0, .nameAndType 24 6), (0, u "INTERNAL_SERVER_ERROR"), (0, .fieldref 1 26), (0, .nameAndType 27 28), (0, u "$VALUES"), (0, u "[Lcom/example/entitlement_ledger/entitlementledger/service/ErrorCode;"), (0, .methodref 30 31), (0, .class_ 28), (0, .nameAndType 32 33), (0, u "clone"), (0, u "()Ljava/lang/Object;"), (1, .class_ 37), (1, u "java/lang/Enum"), (8, u "wireName"), (0, u "Ljava/lang/String;"), (0, .fieldref 1 49), (0, .nameAndType 50 51), (0, u "httpStatus"), (0, u "I"), (2, u "defaultMessage"), (0, .methodref 1 56), (0, .nameAndType 57 58), (0, u "values"), (0, u "()[Lcom/example/entitlement_ledger/entitlementledger/service/ErrorCode;"), (49, u "forStatus"), (0, u "(I)Lcom/example/entitlement_ledger/entitlementledger/service/ErrorCode;")] 6

def k6c0 : Code := { maxStack := 1, maxLocals := 0, code := prog_17_method_1_code, exceptionTable := #[], attributes := #[] }
def k6m0 : Method := { name := "values", desc := "()[Lcom/example/entitlement_ledger/entitlementledger/service/ErrorCode;", sig := { parameters := [], returnType := some (.array (.object "com/example/entitlement_ledger/entitlementledger/service/ErrorCode")) }, accessFlags := 9, code := some k6c0 }
def k6c1 : Code := { maxStack := 2, maxLocals := 5, code := prog_17_method_7_code, exceptionTable := #[], attributes := #[] }
def k6m1 : Method := { name := "forStatus", desc := "(I)Lcom/example/entitlement_ledger/entitlementledger/service/ErrorCode;", sig := { parameters := [.int], returnType := some (.object "com/example/entitlement_ledger/entitlementledger/service/ErrorCode") }, accessFlags := 9, code := some k6c1 }
/-- com/example/entitlement_ledger/entitlementledger/service/ErrorCode -/
def k6 : Class := { plain "com/example/entitlement_ledger/entitlementledger/service/ErrorCode" (some 5) with
  accessFlags := 16433
  interfaces := #[]
  cf := some (fileOf pool6 1 #[] #[{ accessFlags := 9, nameIndex := 57, descriptorIndex := 58, attributes := #[] }, { accessFlags := 9, nameIndex := 108, descriptorIndex := 109, attributes := #[] }] 16433 35 #[] #[{ accessFlags := 16409, nameIndex := 5, descriptorIndex := 6, attributes := #[] }, { accessFlags := 16409, nameIndex := 9, descriptorIndex := 6, attributes := #[] }, { accessFlags := 16409, nameIndex := 12, descriptorIndex := 6, attributes := #[] }, { accessFlags := 16409, nameIndex := 15, descriptorIndex := 6, attributes := #[] }, { accessFlags := 16409, nameIndex := 18, descriptorIndex := 6, attributes := #[] }, { accessFlags := 16409, nameIndex := 21, descriptorIndex := 6, attributes := #[] }, { accessFlags := 16409, nameIndex := 24, descriptorIndex := 6, attributes := #[] }, { accessFlags := 18, nameIndex := 46, descriptorIndex := 47, attributes := #[] }, { accessFlags := 18, nameIndex := 50, descriptorIndex := 51, attributes := #[] }, { accessFlags := 18, nameIndex := 54, descriptorIndex := 47, attributes := #[] }, { accessFlags := 4122, nameIndex := 27, descriptorIndex := 28, attributes := #[] }])
  fields := #[{ name := "BAD_REQUEST", type := (.object "com/example/entitlement_ledger/entitlementledger/service/ErrorCode"), accessFlags := 16409, slot := 0, constantValue := 0 }, { name := "UNAUTHORIZED", type := (.object "com/example/entitlement_ledger/entitlementledger/service/ErrorCode"), accessFlags := 16409, slot := 1, constantValue := 0 }, { name := "NOT_FOUND", type := (.object "com/example/entitlement_ledger/entitlementledger/service/ErrorCode"), accessFlags := 16409, slot := 2, constantValue := 0 }, { name := "METHOD_NOT_ALLOWED", type := (.object "com/example/entitlement_ledger/entitlementledger/service/ErrorCode"), accessFlags := 16409, slot := 3, constantValue := 0 }, { name := "NOT_ACCEPTABLE", type := (.object "com/example/entitlement_ledger/entitlementledger/service/ErrorCode"), accessFlags := 16409, slot := 4, constantValue := 0 }, { name := "UNSUPPORTED_MEDIA_TYPE", type := (.object "com/example/entitlement_ledger/entitlementledger/service/ErrorCode"), accessFlags := 16409, slot := 5, constantValue := 0 }, { name := "INTERNAL_SERVER_ERROR", type := (.object "com/example/entitlement_ledger/entitlementledger/service/ErrorCode"), accessFlags := 16409, slot := 6, constantValue := 0 }, { name := "wireName", type := (.object "java/lang/String"), accessFlags := 18, slot := 3, constantValue := 0 }, { name := "httpStatus", type := .int, accessFlags := 18, slot := 4, constantValue := 0 }, { name := "defaultMessage", type := (.object "java/lang/String"), accessFlags := 18, slot := 5, constantValue := 0 }, { name := "$VALUES", type := (.array (.object "com/example/entitlement_ledger/entitlementledger/service/ErrorCode")), accessFlags := 4122, slot := 7, constantValue := 0 }]
  methods := #[k6m0, k6m1]
  instanceTypes := #[(.object "java/lang/String"), .int, .int, (.object "java/lang/String"), .int, (.object "java/lang/String")]
  staticTypes := #[(.object "com/example/entitlement_ledger/entitlementledger/service/ErrorCode"), (.object "com/example/entitlement_ledger/entitlementledger/service/ErrorCode"), (.object "com/example/entitlement_ledger/entitlementledger/service/ErrorCode"), (.object "com/example/entitlement_ledger/entitlementledger/service/ErrorCode"), (.object "com/example/entitlement_ledger/entitlementledger/service/ErrorCode"), (.object "com/example/entitlement_ledger/entitlementledger/service/ErrorCode"), (.object "com/example/entitlement_ledger/entitlementledger/service/ErrorCode"), (.array (.object "com/example/entitlement_ledger/entitlementledger/service/ErrorCode"))]
  resolved := Array.replicate 116 none
  statics := some 0 }

def pool7 : Array CpInfo := pool [(1, .class_ 2), (0, u "java/lang/Cloneable"), (0, .class_ 4), (0, u "java/lang/Object")] 2

/-- java/lang/Cloneable -/
def k7 : Class := { plain "java/lang/Cloneable" (some 0) with
  accessFlags := 1537
  interfaces := #[]
  cf := some (fileOf pool7 1 #[] #[] 1537 3 #[] #[])
  fields := #[]
  methods := #[]
  instanceTypes := #[]
  staticTypes := #[]
  resolved := Array.replicate 7 none
  statics := none }

/-- the primitive byte -/
def k8 : Class := { plain "byte" none with kind := .primitive 'B', accessFlags := 0x411 }
/-- [B -/
def k9 : Class := { plain "[B" (some 0) with kind := .array 8 .byte, interfaces := #[7, 4], accessFlags := 1041 }

/-- the primitive int -/
def k10 : Class := { plain "int" none with kind := .primitive 'I', accessFlags := 0x411 }
/-- [I -/
def k11 : Class := { plain "[I" (some 0) with kind := .array 10 .int, interfaces := #[7, 4], accessFlags := 1041 }

/-- [Lcom/example/entitlement_ledger/entitlementledger/service/ErrorCode; -/
def k12 : Class := { plain "[Lcom/example/entitlement_ledger/entitlementledger/service/ErrorCode;" (some 0) with kind := .array 6 (.object "com/example/entitlement_ledger/entitlementledger/service/ErrorCode"), interfaces := #[7, 4], accessFlags := 1041 }

def heap : Heap := #[{ cls := 6, slots := #[.ref 2, .ref 3, .ref 4, .ref 5, .ref 6, .ref 7, .ref 8, .ref 1], vm := .statics 6 },
  { cls := 12, slots := #[.ref 2, .ref 3, .ref 4, .ref 5, .ref 6, .ref 7, .ref 8], vm := .none },
  { cls := 6, slots := #[.null, .int 0, .int 0, .null, .int 400, .null], vm := .none },
  { cls := 6, slots := #[.null, .int 0, .int 0, .null, .int 401, .null], vm := .none },
  { cls := 6, slots := #[.null, .int 0, .int 0, .null, .int 404, .null], vm := .none },
  { cls := 6, slots := #[.null, .int 0, .int 0, .null, .int 405, .null], vm := .none },
  { cls := 6, slots := #[.null, .int 0, .int 0, .null, .int 406, .null], vm := .none },
  { cls := 6, slots := #[.null, .int 0, .int 0, .null, .int 415, .null], vm := .none },
  { cls := 6, slots := #[.null, .int 0, .int 0, .null, .int 500, .null], vm := .none }]
def classes : Array Class := #[k0, k1, k2, k3, k4, k5, k6, k7, k8, k9, k10, k11, k12]
def interned : List (Array UInt16 × Addr) := []
def slotsUsed : Nat := 57
def theMethod : MethodId := ⟨1, 1⟩
def args0 : Array Value := #[.int 5, .int 3]
def aboutOver (below : List Frame) : State where
  vm := { classes := classes, interned := interned.toArray }
  heap := heap
  slotsUsed := slotsUsed
  threads := #[{ frames := .invoking theMethod args0 :: below }]
def below0 : List Frame := [.native { method := ⟨0, 0⟩, args := #[] }]
def about1 : State := aboutOver below0
def p0 : Program := .bare "" "" ""
def e0 : Env := launch0.env 0 0 0
theorem w_frames : about1.frames = Frame.invoking theMethod args0 :: below0 := rfl
set_option maxRecDepth 65536 in
theorem w_args : argsFit about1.vm theMethod args0 = true := by decide +kernel
set_option maxRecDepth 65536 in
theorem w_heap : heapFits about1 = true := by decide +kernel
set_option maxRecDepth 65536 in
theorem w_runnable : about1.curStatus? = some .runnable := by decide +kernel
set_option maxRecDepth 65536 in
theorem w_alone : about1.alone = true := by decide +kernel
set_option maxRecDepth 65536 in
theorem w_named : about1.methodNamed? x = some theMethod := by decide +kernel
set_option maxRecDepth 65536 in
theorem w_hears : about1.hears theMethod below0 = true := by decide +kernel
set_option maxRecDepth 65536 in
theorem w_ripe : about1.ripe theMethod args0 below0 = true := by decide +kernel
theorem w_running : about1.status = .running := rfl
set_option maxRecDepth 65536 in
theorem w_room : about1.hasRoom e0.platform room_1 = true :=
  launch0.hasRoom_least _ room_1 (by decide +kernel) (by decide +kernel) (by decide +kernel) (by decide +kernel) (by decide +kernel) (by decide +kernel)
theorem allAtoms_all (ts : List Jvm.Cond) (a : Array Jvm.Value) (st : Jvm.State) : (allAtoms ts).before a st = ts.all (fun c => c.before a st) := by
  induction ts with
  | nil => rfl
  | cons c t ih =>
    show (Jvm.Cond.and c (allAtoms t)).before a st = _
    rw [Jvm.Cond.before_and, ih, List.all_cons]
def words1 : List Jvm.Cond := Jvm.Cond.code x code maxLocals ret :: tables_1
/-- a 'code' word, met by the world's own term for the bytes: nothing is compared byte by byte -/
theorem code_word {y : MethodName} {bytes : ByteArray} {mx : Nat} {rt : Option FieldType} {a : Array Value} {s : State} {m : MethodId} {meth : Method} {c : Code} (h1 : s.methodNamed? y = some m) (h2 : s.vm.method? m = some meth) (h3 : meth.code = some c) (h4 : c.code = bytes)
    (h5 : (c.maxLocals == mx && c.exceptionTable.isEmpty && decide (c.maxStack ≤ mostOperands) && decide (meth.sig.returnType = rt) && !meth.locks && decide (parseMethodDescriptor y.desc = some meth.sig)) = true) : (Jvm.Cond.code y bytes mx rt).before a s = true := by
  simp only [Bool.and_eq_true, beq_iff_eq, Bool.not_eq_true', decide_eq_true_eq] at h5
  obtain ⟨⟨⟨⟨⟨g1, g2⟩, g3⟩, g4⟩, g5⟩, g6⟩ := h5
  simp [Cond.before, Cond.holds, Cond.value, h1, h2, h3, h4, g1, g2, g3, g4, g5, g6]
def isCode : Jvm.Cond → Bool
  | .code _ _ _ _ => true
  | _ => false
theorem all_split {L : List Jvm.Cond} {P : Jvm.Cond → Bool} (h1 : L.all (fun c => isCode c || P c) = true) (h2 : ∀ c ∈ L.filter isCode, P c = true) : L.all P = true := by
  refine List.all_eq_true.mpr fun c hc => ?_
  have h := List.all_eq_true.mp h1 c hc
  rcases Bool.eq_false_or_eq_true (isCode c) with hi | hi
  · exact h2 c (List.mem_filter.mpr ⟨hc, hi⟩)
  · simpa [hi] using h
set_option maxRecDepth 65536 in
theorem w_c0 : (Jvm.Cond.code x code maxLocals ret).before args0 about1 = true := code_word (m := ⟨1, 1⟩) (meth := k1m1) (c := k1c1) (by decide +kernel) rfl rfl rfl (by decide +kernel)
set_option maxRecDepth 65536 in
theorem w_c1 : (Jvm.Cond.code ({ cls := "com/example/entitlement_ledger/entitlementledger/service/ErrorCode", name := "forStatus", desc := "(I)Lcom/example/entitlement_ledger/entitlementledger/service/ErrorCode;" } : Jvm.MethodName) prog_17_method_7_code (5 : Nat) (Option.some (Jvm.ClassFile.FieldType.object "com/example/entitlement_ledger/entitlementledger/service/ErrorCode"))).before args0 about1 = true := code_word (m := ⟨6, 1⟩) (meth := k6m1) (c := k6c1) (by decide +kernel) rfl rfl rfl (by decide +kernel)
set_option maxRecDepth 65536 in
theorem w_c2 : (Jvm.Cond.code ({ cls := "com/example/entitlement_ledger/entitlementledger/service/ErrorCode", name := "values", desc := "()[Lcom/example/entitlement_ledger/entitlementledger/service/ErrorCode;" } : Jvm.MethodName) prog_17_method_1_code (0 : Nat) (Option.some (Jvm.ClassFile.FieldType.array (Jvm.ClassFile.FieldType.object "com/example/entitlement_ledger/entitlementledger/service/ErrorCode")))).before args0 about1 = true := code_word (m := ⟨6, 0⟩) (meth := k6m0) (c := k6c0) (by decide +kernel) rfl rfl rfl (by decide +kernel)
set_option maxRecDepth 65536 in
theorem w_c3 : (Jvm.Cond.code ({ cls := "com/example/entitlement_ledger/entitlementledger/service/ErrorCodeForStatusPinLaw", name := "expected", desc := "(I)Lcom/example/entitlement_ledger/entitlementledger/service/ErrorCode;" } : Jvm.MethodName) method_3_code (1 : Nat) (Option.some (Jvm.ClassFile.FieldType.object "com/example/entitlement_ledger/entitlementledger/service/ErrorCode"))).before args0 about1 = true := code_word (m := ⟨1, 2⟩) (meth := k1m2) (c := k1c2) (by decide +kernel) rfl rfl rfl (by decide +kernel)
def codes1 : List Jvm.Cond := [Jvm.Cond.code x code maxLocals ret, Jvm.Cond.code ({ cls := "com/example/entitlement_ledger/entitlementledger/service/ErrorCode", name := "forStatus", desc := "(I)Lcom/example/entitlement_ledger/entitlementledger/service/ErrorCode;" } : Jvm.MethodName) prog_17_method_7_code (5 : Nat) (Option.some (Jvm.ClassFile.FieldType.object "com/example/entitlement_ledger/entitlementledger/service/ErrorCode")), Jvm.Cond.code ({ cls := "com/example/entitlement_ledger/entitlementledger/service/ErrorCode", name := "values", desc := "()[Lcom/example/entitlement_ledger/entitlementledger/service/ErrorCode;" } : Jvm.MethodName) prog_17_method_1_code (0 : Nat) (Option.some (Jvm.ClassFile.FieldType.array (Jvm.ClassFile.FieldType.object "com/example/entitlement_ledger/entitlementledger/service/ErrorCode"))), Jvm.Cond.code ({ cls := "com/example/entitlement_ledger/entitlementledger/service/ErrorCodeForStatusPinLaw", name := "expected", desc := "(I)Lcom/example/entitlement_ledger/entitlementledger/service/ErrorCode;" } : Jvm.MethodName) method_3_code (1 : Nat) (Option.some (Jvm.ClassFile.FieldType.object "com/example/entitlement_ledger/entitlementledger/service/ErrorCode"))]
set_option maxRecDepth 65536 in
theorem codes_eq : words1.filter isCode = codes1 := rfl
theorem w_codes : ∀ c ∈ words1.filter isCode, c.before args0 about1 = true := by
  rw [codes_eq]
  intro c hc
  simp only [codes1, List.mem_cons, List.not_mem_nil, or_false] at hc
  rcases hc with rfl | rfl | rfl | rfl
  · exact w_c0
  · exact w_c1
  · exact w_c2
  · exact w_c3
set_option maxRecDepth 65536 in
theorem w_t1 : (words1.take 24).all (fun c => isCode c || c.before args0 about1) = true := by decide +kernel
set_option maxRecDepth 65536 in
theorem w_t2 : (words1.drop 24).all (fun c => isCode c || c.before args0 about1) = true := by decide +kernel
theorem w_tables : (allAtoms (Jvm.Cond.code x code maxLocals ret :: tables_1)).before args0 about1 = true := by
  rw [allAtoms_all]
  show words1.all (fun c => c.before args0 about1) = true
  refine all_split ?_ w_codes
  rw [← List.take_append_drop 24 words1, List.all_append, w_t1, w_t2]
  rfl
set_option maxRecDepth 65536 in
theorem w_case : (Jvm.Cond.and given_1 narrow_1).before args0 about1 = true := by decide +kernel
theorem w_applies : (headSpec (Jvm.Cond.code x code maxLocals ret :: tables_1) room_1).applies x e0.platform about1 = true :=
  (Spec.applies_iff w_frames).mpr ⟨w_running, w_runnable, w_alone, w_named, w_hears, w_ripe, w_room, w_tables⟩
theorem atStart : AtStart classFile x code maxLocals ret World_1 tables_1 room_1 Calls_1 rest_1 Pre_1 launch0 p0 e0 about1 theMethod args0 below0 :=
  ⟨lists_1, trivial, launch0.admits_env _ _ _, launch0.least_env, fairChoices_fair.cas, fairChoices_fair.clock, w_frames, w_args, w_heap, w_applies, trivial, trivial, w_case⟩
end start1
theorem witness_1 : WitnessClaimed_1 := ⟨start1.p0, start1.e0, start1.about1, start1.theMethod, start1.args0, start1.below0, start1.atStart⟩
end Jvm.Pilot.@@N@@
