import JvmDerived
import JvmDerived.Pilot.@@N@@Statement
import JvmDerived.Pilot.@@N@@Code
set_option linter.unusedVariables false
set_option linter.unusedSimpArgs false
namespace Jvm.Pilot.@@N@@
open Jvm Jvm.ClassFile Sem Op Lib Jvm.Free Jvm.Stand Jvm.LawKit Jvm.RoadKit Bundle Jvm.Pilot.@@N@@.Jvm.D
abbrev own_At (p : Program) (e : Env) (below : List Frame) (m : MethodId) (T : State) (pc : Nat) (ls : Array Slot) (st : List Value) (t : State) : Prop := Steps p.tables e below (T.setTop (mkF m pc ls st)) t
abbrev own_En (p : Program) (e : Env) (below : List Frame) (m : MethodId) (T : State) (a : Array Value) (n : Nat) (t : State) : Prop := Steps p.tables e below (T.setTop (entryFrame m a n)) t
theorem own_w {a0 : Array Value} {Z : State} (hw : ∀ d ∈ tables_1, d.before a0 Z = true) (i : Nat) {d : Jvm.Cond} (h : tables_1[i]? = some d) : d.before a0 Z = true := hw d (List.mem_of_getElem? h)
theorem own_eqI {t : Term} {k : Int32} {args : Array Value} {s : State} (h : (Jvm.Cond.eq t (.int k)).value args s none s [] = some true) : t.eval args s none [] s = some (.int k) := by
  have e : (Term.int k).eval args s none [] s = some (.int k) := rfl
  simp only [Cond.value, e] at h
  cases ht : t.eval args s none [] s with
  | none => simp [ht] at h
  | some x => cases x <;> simp [ht] at h ⊢; exact h
theorem own_neI {t : Term} {k z : Int32} {args : Array Value} {s : State} (e : t.eval args s none [] s = some (.int z)) (h : (Jvm.Cond.not (Jvm.Cond.eq t (.int k))).value args s none s [] = some true) : ¬ (z = k) := by
  have q := not_v h
  have e2 : (Term.int k).eval args s none [] s = some (.int k) := rfl
  simp only [Cond.value, e, e2, Bool.not_true, Option.some.injEq, decide_eq_false_iff_not] at q
  exact q
theorem own_neR {t u : Term} {a b : Addr} {args : Array Value} {s : State} (ea : t.eval args s none [] s = some (.ref a)) (eb : u.eval args s none [] s = some (.ref b)) (h : (Jvm.Cond.not (Jvm.Cond.eq t u)).value args s none s [] = some true) : ¬ (a = b) := by
  have q := not_v h
  rw [eq_R ea eb rfl rfl] at q
  intro e
  rw [e] at q
  simp at q
theorem own_eqJ {t : Term} {k : Int64} {args : Array Value} {s : State} (h : (Jvm.Cond.eq t (.long k)).value args s none s [] = some true) : t.eval args s none [] s = some (.long k) := by
  have e : (Term.long k).eval args s none [] s = some (.long k) := rfl
  simp only [Cond.value, e] at h
  cases ht : t.eval args s none [] s with
  | none => simp [ht] at h
  | some x => cases x <;> simp [ht] at h ⊢; exact h
theorem own_len {t : Term} {n : Int32} {a : Addr} {cl : Cell} {ty : FieldType} {args : Array Value} {s : State} (ev : t.eval args s none [] s = some (.ref a)) (A : Arr s s.heap a cl ty) (h : (Jvm.Cond.eq (.length t) (.int n)).value args s none s [] = some true) : cl.slots.size < 2 ^ 31 ∧ cl.slots.size.toInt32 = n := by
  have q := own_eqI h
  have hA := A.fin (Vm.Alike.refl _)
  simp only [Term.eval, ev, hA, Option.bind_eq_bind, Option.bind_some] at q
  split at q
  · rename_i hl
    exact ⟨hl, Value.int.inj (Option.some.inj q)⟩
  · cases q
theorem own_elem {t : Term} {j : Int32} {a : Addr} {v : Value} {cl : Cell} {ty : FieldType} {args : Array Value} {s : State} (ev : t.eval args s none [] s = some (.ref a)) (A : Arr s s.heap a cl ty) (h : (Term.elem t (.int j)).eval args s none [] s = some v) (i : Nat) (hi : j.toNatClampNeg = i) : cl.slots[i]? = some v := by
  have q := (elem_in h ev (rfl : (Term.int j).eval args s none [] s = some (.int j)) A.1).2
  rw [hi] at q; exact q
/-- an array as it stood at the start, that may be cloned -/
def own_Cln (Z : State) (h : Heap) (a : Addr) (ty : FieldType) (n : Int32) (vs : List Value) (d : Value) : Prop := ∃ c : Cell, Arr Z h a c ty ∧ FitC Z c ∧ c.slots.size = n.toNatClampNeg ∧ ¬ n < 0 ∧ Has c vs d ∧ ∀ i, i < c.slots.size → fits ty (vs.getD i d) = true
theorem own_Cln.ext {Z : State} {h h' : Heap} {a : Addr} {ty : FieldType} {n : Int32} {vs : List Value} {d : Value} (F : own_Cln Z h a ty n vs d) (E : Ext h h') : own_Cln Z h' a ty n vs d := by
  obtain ⟨c, A, r⟩ := F; exact ⟨c, A.ext E, r⟩
theorem own_Cln.start {Z : State} {a : Addr} {cl : Cell} {ty : FieldType} {z : Int32} {vs : List Value} {dv : Value} (hf : Fit Z) (A : Arr Z Z.heap a cl ty) (q : cl.slots.size < 2 ^ 31 ∧ cl.slots.size.toInt32 = z) (hz : ¬ z < 0) (hl : z.toNatClampNeg = vs.length) (H : HasL cl 0 vs) : own_Cln Z Z.heap a ty z vs dv := by
  have S : cl.slots.size = z.toNatClampNeg := by rw [← q.2]; simp only [Int32.toNatClampNeg, len_toInt q.1]; rfl
  have H' : Has cl vs dv := fun j hj => by have := HasL.at (dv := dv) vs 0 H j (by rw [← hl, ← S]; exact hj); rwa [Nat.zero_add] at this
  refine ⟨cl, A, FitC.start hf A, S, hz, H', fun j hj => ?_⟩
  have e1 : (Nat.toInt32 j).toNatClampNeg = j := by simp only [Int32.toNatClampNeg, len_toInt (Nat.lt_trans hj q.1)]; rfl
  exact elem_fits (j := Nat.toInt32 j) hf A (idx_in hj q.1) (by rw [e1]; exact H' j hj)
theorem own_Cln.arv {Z : State} {h : Heap} {a : Addr} {ty : FieldType} {n : Int32} {vs : List Value} {d : Value} (F : own_Cln Z h a ty n vs d) : ∃ k, Arv Z h a k ty n vs d := by
  obtain ⟨c, A, -, r⟩ := F; exact ⟨c.cls, c, A, rfl, r⟩
theorem own_eqR {t u : Term} {b : Addr} {args : Array Value} {s : State} (h : (Jvm.Cond.eq t u).value args s none s [] = some true) (e : u.eval args s none [] s = some (.ref b)) : t.eval args s none [] s = some (.ref b) := by
  simp only [Cond.value, e] at h
  cases ht : t.eval args s none [] s with
  | none => simp [ht] at h
  | some x => cases x <;> simp [ht] at h ⊢; exact h
theorem own_dup2L {tb : Tables} [Ours tb] {e : Env} {below : List Frame} {T target : State} {m : MethodId} {c : Code} {g : JFrame} (h : At T m c below) (hx : tb.exec = Jvm.exec) (hg : g.method = m) {x : Int64} {rest : List Value} (hd : decode c.code g.pc = .ok (.dup2, 1)) (hs : g.stack = .long x :: rest) (hr : Steps tb e below (T.setTop { g with pc := g.pc + 1, stack := .long x :: .long x :: rest }) target) : Steps tb e below (T.setTop g) target := by
  subst hg
  jvm_step h [h.top, hx, hd, hs, Value.category]
  exact hr
def EV (Z : State) (a__VALUES : Addr) (a_ONE : Addr) (a_BATCH : Addr) (a_ONE_path : Addr) (a_BATCH_path : Addr) (a_ONE_path_value : Addr) (a_BATCH_path_value : Addr) (z_COMPACT_STRINGS : Int32) (r_SIOOBE_FORMATTER : Value) : Prop := Sta Z Z.heap "com/example/kwota/kwota/server/CheckPath" "$VALUES" "[Lcom/example/kwota/kwota/server/CheckPath;" (.ref a__VALUES) ∧ Exa Z Z.heap a__VALUES "[Lcom/example/kwota/kwota/server/CheckPath;" ∧ Sta Z Z.heap "com/example/kwota/kwota/server/CheckPath" "ONE" "Lcom/example/kwota/kwota/server/CheckPath;" (.ref a_ONE) ∧ Exa Z Z.heap a_ONE "com/example/kwota/kwota/server/CheckPath" ∧ Sta Z Z.heap "com/example/kwota/kwota/server/CheckPath" "BATCH" "Lcom/example/kwota/kwota/server/CheckPath;" (.ref a_BATCH) ∧ Exa Z Z.heap a_BATCH "com/example/kwota/kwota/server/CheckPath" ∧ Fld Z Z.heap a_ONE "com/example/kwota/kwota/server/CheckPath" "path" "Ljava/lang/String;" (.ref a_ONE_path) ∧ Exa Z Z.heap a_ONE_path "java/lang/String" ∧ Fld Z Z.heap a_BATCH "com/example/kwota/kwota/server/CheckPath" "path" "Ljava/lang/String;" (.ref a_BATCH_path) ∧ Exa Z Z.heap a_BATCH_path "java/lang/String" ∧ Fld Z Z.heap a_ONE_path "java/lang/String" "coder" "B" (.int (0 : Int32)) ∧ Fld Z Z.heap a_ONE_path "java/lang/String" "value" "[B" (.ref a_ONE_path_value) ∧ Fld Z Z.heap a_BATCH_path "java/lang/String" "coder" "B" (.int (0 : Int32)) ∧ Fld Z Z.heap a_BATCH_path "java/lang/String" "value" "[B" (.ref a_BATCH_path_value) ∧ ¬ (a_BATCH_path = a_ONE_path) ∧ Sta Z Z.heap "java/lang/String" "COMPACT_STRINGS" "Z" (.int z_COMPACT_STRINGS) ∧ ¬ (z_COMPACT_STRINGS = (0 : Int32)) ∧ Sta Z Z.heap "jdk/internal/util/Preconditions" "SIOOBE_FORMATTER" "Ljava/util/function/BiFunction;" r_SIOOBE_FORMATTER ∧ r_SIOOBE_FORMATTER.isRef = true ∧ own_Cln Z Z.heap a__VALUES (.object "com/example/kwota/kwota/server/CheckPath") (2 : Int32) [(.ref a_ONE), (.ref a_BATCH)] .null ∧ own_Cln Z Z.heap a_ONE_path_value .byte (9 : Int32) [(.int (47 : Int32)), (.int (118 : Int32)), (.int (49 : Int32)), (.int (47 : Int32)), (.int (99 : Int32)), (.int (104 : Int32)), (.int (101 : Int32)), (.int (99 : Int32)), (.int (107 : Int32))] (.int (0 : Int32)) ∧ own_Cln Z Z.heap a_BATCH_path_value .byte (10 : Int32) [(.int (47 : Int32)), (.int (118 : Int32)), (.int (49 : Int32)), (.int (47 : Int32)), (.int (99 : Int32)), (.int (104 : Int32)), (.int (101 : Int32)), (.int (99 : Int32)), (.int (107 : Int32)), (.int (115 : Int32))] (.int (0 : Int32))
theorem ef_vals (m : MethodId)   : entryFrame m #[] 0 = mkF m 0 #[] [] := by first | (simp [entryFrame, mkF, argsToLocals, Value.category]; done) | rfl
theorem d_prog_58_method_1_code_0 : decode prog_58_method_1_code 0 = .ok (.getstatic 10, 3) := by decide +kernel
theorem d_prog_58_method_1_code_3 : decode prog_58_method_1_code 3 = .ok (.invokevirtual 14, 3) := by decide +kernel
theorem d_prog_58_method_1_code_6 : decode prog_58_method_1_code 6 = .ok (.checkcast 15, 3) := by decide +kernel
theorem d_prog_58_method_1_code_9 : decode prog_58_method_1_code 9 = .ok (.areturn, 1) := by decide +kernel
theorem pn_com_example_kwota_kwota_server_CheckPath : plainName "com/example/kwota/kwota/server/CheckPath" = true := by first | (simp [plainName, overriddenIn]; done) | decide +kernel
abbrev own_m0 : MethodName := ⟨"com/example/kwota/kwota/server/CheckPath", "values", "()[Lcom/example/kwota/kwota/server/CheckPath;"⟩
def Q_vals (Z : State) (a__VALUES : Addr) (a_ONE : Addr) (a_BATCH : Addr) (a_ONE_path : Addr) (a_BATCH_path : Addr) (a_ONE_path_value : Addr) (a_BATCH_path_value : Addr) (z_COMPACT_STRINGS : Int32) (r_SIOOBE_FORMATTER : Value) (h0 : Heap) (n0 : Nat) (v : Option Value) (h : Heap) (L : List Loc) : Prop := ∃ (b : Addr) (k : ClassId), v = some (.ref b) ∧ Fr n0 L ∧ Old Z n0 h ∧ Keep h0 h [] ∧ n0 ≤ b ∧ h0.size ≤ b ∧ Arv Z h b k (.object "com/example/kwota/kwota/server/CheckPath") (2 : Int32) [(.ref a_ONE), (.ref a_BATCH)] .null
set_option maxRecDepth 65536 in
set_option maxHeartbeats 40000000 in
theorem rm_vals (l : Launch) (Z : State) (a0 : Array Value) (hw : ∀ d ∈ tables_1, d.before a0 Z = true) (ws : List Jvm.Cond) (a__VALUES : Addr) (a_ONE : Addr) (a_BATCH : Addr) (a_ONE_path : Addr) (a_BATCH_path : Addr) (a_ONE_path_value : Addr) (a_BATCH_path_value : Addr) (z_COMPACT_STRINGS : Int32) (r_SIOOBE_FORMATTER : Value) (h0 : Heap) (n0 : Nat) (O0 : Old Z n0 h0) (hE : EV Z a__VALUES a_ONE a_BATCH a_ONE_path a_BATCH_path a_ONE_path_value a_BATCH_path_value z_COMPACT_STRINGS r_SIOOBE_FORMATTER) :
    MetFree l own_m0 (head1 (Jvm.Cond.code own_m0 prog_58_method_1_code 0 (some (.array (.object "com/example/kwota/kwota/server/CheckPath"))) :: ws) ({ frames := 1, cells := 1, slots := 2, locals := 14 } : Room)) (fun a U => a = #[] ∧ Z.Warmed39 U.vm ∧ U.heap = h0) (fun _ _ _ _ _ => True) (fun _ U o U' => ∃ v L, o = .returned v ∧ Q_vals Z a__VALUES a_ONE a_BATCH a_ONE_path a_BATCH_path a_ONE_path_value a_BATCH_path_value z_COMPACT_STRINGS r_SIOOBE_FORMATTER h0 n0 v U'.heap L ∧ FrameEnd U o U' L ({ frames := 1, cells := 1, slots := 2, locals := 14 } : Room).cells ({ frames := 1, cells := 1, slots := 2, locals := 14 } : Room).slots) := by
  refine MetFree.of_bodySF (plainFor_of_name pn_com_example_kwota_kwota_server_CheckPath) hisR ?_
  intro p e s m args below meth c s₁ Bd hml0 hP hK
  obtain ⟨rfl, hZ, hh⟩ := hP
  have hx := Bd.exec
  have hby := Bd.bytes
  have hml : c.maxLocals = 0 := hml0
  have hown : s.vm.findClass "com/example/kwota/kwota/server/CheckPath" = some m.cls := findClass_of_methodNamed Bd.named
  have hnm := (name_of_methodNamed Bd.named Bd.method).1
  have X00 : Stand p l e ({ frames := 1, cells := 1, slots := 2, locals := 14 } : Room) s m #[] below meth c s₁ [] 0 0 := Stand.of_body Bd
  have e00 : s₁.heap = h0 := by rw [← hh, Bd.state]; rfl
  have N00 := Fr.nil n0
  refine Classical.byContradiction fun hNG => ?_
  have K00 := Keep.refl h0 []
  have k00 : ∀ t, own_At p e below m s₁ 0 #[] [] t → own_En p e below m s₁ #[] 0 t := fun t k => castTop (ef_vals m  ) k
  obtain ⟨S__VALUES, E__VALUES, S_ONE, E_ONE, S_BATCH, E_BATCH, F_ONE_path, E_ONE_path, F_BATCH_path, E_BATCH_path, F_ONE_path_coder, F_ONE_path_value, F_BATCH_path_coder, F_BATCH_path_value, ne_BATCH_path_ONE_path, S_COMPACT_STRINGS, nz_COMPACT_STRINGS, S_SIOOBE_FORMATTER, iS_SIOOBE_FORMATTER, C__VALUES, C_ONE_path_value, C_BATCH_path_value⟩ := (id hE : EV Z a__VALUES a_ONE a_BATCH a_ONE_path a_BATCH_path a_ONE_path_value a_BATCH_path_value z_COMPACT_STRINGS r_SIOOBE_FORMATTER)
  obtain ⟨kw_ONE_path, Aw_ONE_path⟩ := C_ONE_path_value.arv
  obtain ⟨kw_BATCH_path, Aw_BATCH_path⟩ := C_BATCH_path_value.arv
  obtain ⟨T10, X10, e10, st10⟩ := getS2 X00 hx hZ hown (host := "") (Or.inl (own_w hw 7 rfl)) Via.refl e00 (S__VALUES.ext O0.2) (g := (mkF m 0 #[] [])) rfl (hb hby d_prog_58_method_1_code_0)
  obtain ⟨cl11, Ar11, Fc11, Sz11, Nn11, Hs11, Gf11⟩ := own_Cln.ext C__VALUES O0.2
  obtain ⟨T12, h12, X12, e12, E12, A12, Ex12, st12⟩ := cloneA X10 hx hZ hown (own_w hw 9 rfl) (own_w hw 10 rfl) (own_w hw 14 rfl) (own_w hw 12 rfl) (own_w hw 13 rfl) (own_w hw 15 rfl) e10 Ar11 (E__VALUES.ext O0.2) Fc11 (g := (mkF m 3 #[] [(.ref a__VALUES)])) rfl (by rw [hml]; rfl) rfl (hb hby d_prog_58_method_1_code_3) (by decide) (W := 0) (cap := 2) (by show 2 * 0 + _ ≤ _; exact Nat.le_of_eq rfl) (by decide) (by rw [Sz11]; decide) (by decide) (by decide)
  obtain ⟨b12, g12⟩ : ∃ z, z = h0.size := ⟨_, rfl⟩
  rw [← g12] at A12 Ex12 st12
  have O12 := O0.ext E12
  have g_b12 : n0 ≤ b12 := Nat.le_trans (Nat.le_of_eq O0.1.symm) (Nat.le_trans O0.2.1 (Nat.le_of_eq g12.symm))
  have s_b12 : h0.size ≤ b12 := Nat.le_trans K00.1 (Nat.le_of_eq g12.symm)
  have K12 := K00.ext E12
  have V12 : Arv Z h12 b12 cl11.cls (.object "com/example/kwota/kwota/server/CheckPath") (2 : Int32) [(.ref a_ONE), (.ref a_BATCH)] .null := ⟨cloneOf cl11, A12, rfl, Sz11, Nn11, Hs11, Gf11⟩
  have lt_b12 := V12.lt
  obtain ⟨T13, X13, e13, st13⟩ := castY X12 hx hZ hown (own_w hw 19 rfl) e12 (Ins.self Ex12) (g := (mkF m 6 #[] [(.ref b12)])) rfl rfl (hb hby d_prog_58_method_1_code_6)
  have k14 : ∀ t, own_At p e below m T13 9 #[] [(.ref b12)] t → own_En p e below m s₁ #[] 0 t := by
    intro t k
    refine k00 t ?_
    refine st10 _ ?_
    show own_At p e below m T10 3 #[] [(.ref a__VALUES)] t
    refine st12 _ ?_
    show own_At p e below m T12 6 #[] [(.ref b12)] t
    refine st13 _ ?_
    show own_At p e below m T13 9 #[] [(.ref b12)] t
    exact k
  obtain ⟨fs, hr, hrun, hended, hW, hsame⟩ := X13.leave (v := some (.ref b12)) (fun h => by rw [Bd.returns] at h; cases h)
  refine hNG ⟨_, _, k14 _ ?_, hrun, hended, _, _, rfl, ?_, ⟨_, rfl⟩, hW, hsame.mono (by decide) (by decide)⟩
  · exact retOut X13 hx (t := (.array (.object "com/example/kwota/kwota/server/CheckPath"))) Bd.returns rfl (Or.inr (Or.inr (Or.inr (Or.inr ⟨rfl, rfl, rfl⟩)))) (hb hby d_prog_58_method_1_code_9) hr
  · show Q_vals Z a__VALUES a_ONE a_BATCH a_ONE_path a_BATCH_path a_ONE_path_value a_BATCH_path_value z_COMPACT_STRINGS r_SIOOBE_FORMATTER h0 n0 _ T13.heap _
    rw [e13]
    exact ⟨b12, cl11.cls, rfl, N00, O12, K12, g_b12, s_b12, V12⟩
theorem ef_pt (m : MethodId)   : entryFrame m #[] 3 = mkF m 0 #[.unset, .unset, .unset] [] := by first | (simp [entryFrame, mkF, argsToLocals, Value.category]; done) | rfl
theorem d_prog_58_method_5_code_0 : decode prog_58_method_5_code 0 = .ok (.invokestatic 33, 3) := by decide +kernel
theorem pd____Lcom_example_kwota_kwota_server_CheckPath_ : parseMethodDescriptor "()[Lcom/example/kwota/kwota/server/CheckPath;" = some ⟨[], some (.array (.object "com/example/kwota/kwota/server/CheckPath"))⟩ := by decide +kernel
theorem d_prog_58_method_5_code_3 : decode prog_58_method_5_code 3 = .ok (.astore_n 0, 1) := by decide +kernel
theorem d_prog_58_method_5_code_4 : decode prog_58_method_5_code 4 = .ok (.aload_n 0, 1) := by decide +kernel
theorem d_prog_58_method_5_code_5 : decode prog_58_method_5_code 5 = .ok (.arraylength, 1) := by decide +kernel
theorem d_prog_58_method_5_code_6 : decode prog_58_method_5_code 6 = .ok (.anewarray 37, 3) := by decide +kernel
theorem d_prog_58_method_5_code_9 : decode prog_58_method_5_code 9 = .ok (.astore_n 1, 1) := by decide +kernel
theorem d_prog_58_method_5_code_10 : decode prog_58_method_5_code 10 = .ok (.iconst 0, 1) := by decide +kernel
theorem d_prog_58_method_5_code_11 : decode prog_58_method_5_code 11 = .ok (.istore_n 2, 1) := by decide +kernel
theorem d_prog_58_method_5_code_12 : decode prog_58_method_5_code 12 = .ok (.iload_n 2, 1) := by decide +kernel
theorem d_prog_58_method_5_code_13 : decode prog_58_method_5_code 13 = .ok (.aload_n 0, 1) := by decide +kernel
theorem d_prog_58_method_5_code_14 : decode prog_58_method_5_code 14 = .ok (.arraylength, 1) := by decide +kernel
theorem d_prog_58_method_5_code_15 : decode prog_58_method_5_code 15 = .ok (.if_icmp .ge 18, 3) := by decide +kernel
theorem d_prog_58_method_5_code_18 : decode prog_58_method_5_code 18 = .ok (.aload_n 1, 1) := by decide +kernel
theorem d_prog_58_method_5_code_19 : decode prog_58_method_5_code 19 = .ok (.iload_n 2, 1) := by decide +kernel
theorem d_prog_58_method_5_code_20 : decode prog_58_method_5_code 20 = .ok (.aload_n 0, 1) := by decide +kernel
theorem d_prog_58_method_5_code_21 : decode prog_58_method_5_code 21 = .ok (.iload_n 2, 1) := by decide +kernel
theorem d_prog_58_method_5_code_22 : decode prog_58_method_5_code 22 = .ok (.aaload, 1) := by decide +kernel
theorem d_prog_58_method_5_code_23 : decode prog_58_method_5_code 23 = .ok (.getfield 29, 3) := by decide +kernel
theorem d_prog_58_method_5_code_26 : decode prog_58_method_5_code 26 = .ok (.aastore, 1) := by decide +kernel
theorem d_prog_58_method_5_code_27 : decode prog_58_method_5_code 27 = .ok (.iinc 2 1, 3) := by decide +kernel
theorem d_prog_58_method_5_code_30 : decode prog_58_method_5_code 30 = .ok (.goto (-18), 3) := by decide +kernel
theorem d_prog_58_method_5_code_33 : decode prog_58_method_5_code 33 = .ok (.aload_n 1, 1) := by decide +kernel
theorem d_prog_58_method_5_code_34 : decode prog_58_method_5_code 34 = .ok (.areturn, 1) := by decide +kernel
abbrev own_m1 : MethodName := ⟨"com/example/kwota/kwota/server/CheckPath", "paths", "()[Ljava/lang/String;"⟩
def Q_pt (Z : State) (a__VALUES : Addr) (a_ONE : Addr) (a_BATCH : Addr) (a_ONE_path : Addr) (a_BATCH_path : Addr) (a_ONE_path_value : Addr) (a_BATCH_path_value : Addr) (z_COMPACT_STRINGS : Int32) (r_SIOOBE_FORMATTER : Value) (h0 : Heap) (n0 : Nat) (v : Option Value) (h : Heap) (L : List Loc) : Prop := ∃ (b : Addr) (k : ClassId), v = some (.ref b) ∧ Fr n0 L ∧ Old Z n0 h ∧ Keep h0 h [] ∧ n0 ≤ b ∧ h0.size ≤ b ∧ Arv Z h b k (.object "java/lang/String") (2 : Int32) [(.ref a_ONE_path), (.ref a_BATCH_path)] .null
set_option maxRecDepth 65536 in
set_option maxHeartbeats 40000000 in
theorem rm_pt (l : Launch) (Z : State) (a0 : Array Value) (hw : ∀ d ∈ tables_1, d.before a0 Z = true) (ws : List Jvm.Cond) (a__VALUES : Addr) (a_ONE : Addr) (a_BATCH : Addr) (a_ONE_path : Addr) (a_BATCH_path : Addr) (a_ONE_path_value : Addr) (a_BATCH_path_value : Addr) (z_COMPACT_STRINGS : Int32) (r_SIOOBE_FORMATTER : Value) (h0 : Heap) (n0 : Nat) (O0 : Old Z n0 h0) (hE : EV Z a__VALUES a_ONE a_BATCH a_ONE_path a_BATCH_path a_ONE_path_value a_BATCH_path_value z_COMPACT_STRINGS r_SIOOBE_FORMATTER) :
    MetFree l own_m1 (head1 (Jvm.Cond.code own_m1 prog_58_method_5_code 3 (some (.array (.object "java/lang/String"))) :: ws) ({ frames := 2, cells := 2, slots := 4, locals := 25 } : Room)) (fun a U => a = #[] ∧ Z.Warmed39 U.vm ∧ U.heap = h0) (fun _ _ _ _ _ => True) (fun _ U o U' => ∃ v L, o = .returned v ∧ Q_pt Z a__VALUES a_ONE a_BATCH a_ONE_path a_BATCH_path a_ONE_path_value a_BATCH_path_value z_COMPACT_STRINGS r_SIOOBE_FORMATTER h0 n0 v U'.heap L ∧ FrameEnd U o U' L ({ frames := 2, cells := 2, slots := 4, locals := 25 } : Room).cells ({ frames := 2, cells := 2, slots := 4, locals := 25 } : Room).slots) := by
  refine MetFree.of_bodySF (plainFor_of_name pn_com_example_kwota_kwota_server_CheckPath) hisR ?_
  intro p e s m args below meth c s₁ Bd hml0 hP hK
  obtain ⟨rfl, hZ, hh⟩ := hP
  have hx := Bd.exec
  have hby := Bd.bytes
  have hml : c.maxLocals = 3 := hml0
  have hown : s.vm.findClass "com/example/kwota/kwota/server/CheckPath" = some m.cls := findClass_of_methodNamed Bd.named
  have hnm := (name_of_methodNamed Bd.named Bd.method).1
  have X00 : Stand p l e ({ frames := 2, cells := 2, slots := 4, locals := 25 } : Room) s m #[] below meth c s₁ [] 0 0 := Stand.of_body Bd
  have e00 : s₁.heap = h0 := by rw [← hh, Bd.state]; rfl
  have N00 := Fr.nil n0
  refine Classical.byContradiction fun hNG => ?_
  have K00 := Keep.refl h0 []
  have k00 : ∀ t, own_At p e below m s₁ 0 #[.unset, .unset, .unset] [] t → own_En p e below m s₁ #[] 3 t := fun t k => castTop (ef_pt m  ) k
  obtain ⟨S__VALUES, E__VALUES, S_ONE, E_ONE, S_BATCH, E_BATCH, F_ONE_path, E_ONE_path, F_BATCH_path, E_BATCH_path, F_ONE_path_coder, F_ONE_path_value, F_BATCH_path_coder, F_BATCH_path_value, ne_BATCH_path_ONE_path, S_COMPACT_STRINGS, nz_COMPACT_STRINGS, S_SIOOBE_FORMATTER, iS_SIOOBE_FORMATTER, C__VALUES, C_ONE_path_value, C_BATCH_path_value⟩ := (id hE : EV Z a__VALUES a_ONE a_BATCH a_ONE_path a_BATCH_path a_ONE_path_value a_BATCH_path_value z_COMPACT_STRINGS r_SIOOBE_FORMATTER)
  obtain ⟨kw_ONE_path, Aw_ONE_path⟩ := C_ONE_path_value.arv
  obtain ⟨kw_BATCH_path, Aw_BATCH_path⟩ := C_BATCH_path_value.arv
  obtain ⟨_, _, ⟨T10, L10, k10, n10⟩, -, X10, ⟨Lc10, hQ10, l10, y10, z10⟩, st10⟩ := Jvm.LawKit.callS X00 hx (y := own_m0) hown (mvT hZ (own_w hw 4 rfl)) (mvT hZ (own_w hw 5 rfl)) (mvT hZ (own_w hw 2 rfl)) (mvT hZ (own_w hw 6 rfl)) (by decide) (backOf (W := 0) (rm_vals l Z a0 hw []  _ _ _ _ _ _ _ _ _ h0 n0 O0 hE  ) hZ (own_w hw 6 rfl) (own_w hw 2 rfl) (by decide) (by decide)) (g := (mkF m 0 #[.unset, .unset, .unset] [])) rfl (by rw [hml]; rfl) (argsL := []) (rest := []) (lenOf pd____Lcom_example_kwota_kwota_server_CheckPath_ rfl) rfl (by show 2 * 0 + _ ≤ _; exact Nat.le_of_eq rfl) (hb hby d_prog_58_method_5_code_0) (fun _ _ => ⟨rfl, e00, (by decide : 0 + 1 ≤ _), (by decide : 0 + 2 ≤ _)⟩)
  dsimp only [Pt.U, Pt.locs, Pt.cells, Pt.slots] at X10 l10 y10 z10 st10 hQ10
  subst l10 y10 z10
  obtain ⟨b10, k10, rfl, N10q, O10, Kc10, g_b10, gs_b10, F10_0⟩ := hQ10
  have N10 := Fr.app N00 N10q
  have K10 := K00.trans Kc10 (fun x hx => nomatch hx)
  have s_b10 := Nat.le_trans K00.1 gs_b10
  have lt_b10 := F10_0.lt
  obtain ⟨cl11, Ar11, q11, Sz11, Nn11, Hs11, Gf11⟩ := id F10_0
  obtain ⟨T12, h12, c12, X12, e12, E12, A12, Ov12, st12⟩ := newR X10 hx hZ hown (own_w hw 21 rfl) (own_w hw 22 rfl) rfl (g := (mkF m 6 #[.val (.ref b10), .unset, .unset] [(.int (2 : Int32))])) rfl (hb hby d_prog_58_method_5_code_6) rfl (by decide) (cap := 2) (by decide) (by decide) (by decide) (by decide)
  obtain ⟨b12, g12⟩ : ∃ z, z = T10.heap.size := ⟨_, rfl⟩
  rw [← g12] at A12 st12
  have O12 := O10.ext E12
  have g_b12 : n0 ≤ b12 := Nat.le_trans (Nat.le_of_eq O10.1.symm) (Nat.le_trans O10.2.1 (Nat.le_of_eq g12.symm))
  have s_b12 : h0.size ≤ b12 := Nat.le_trans K10.1 (Nat.le_of_eq g12.symm)
  have K12 := K10.ext E12
  have V12 : Arv Z h12 b12 c12 (.object "java/lang/String") (2 : Int32) [.null, .null] .null := (Arv.new A12 (by decide)).pad (pad_rep [] .null 2)
  have lt_b12 := V12.lt
  have f13 := (F10_0.ext E12)
  obtain ⟨cl14, Ar14, q14, Sz14, Nn14, Hs14, Gf14⟩ := id f13
  obtain ⟨cl15, Ar15, q15, Sz15, Nn15, Hs15, Gf15⟩ := id f13
  have hin16 : ¬ ((0 : Int32) < 0 ∨ cl15.slots.size ≤ ((0 : Int32)).toNatClampNeg) := inb_of Sz15 ⟨by decide, by decide⟩
  have hat17 : cl15.slots[((0 : Int32)).toNatClampNeg]? = some (.ref a_ONE) := Hs15.at hin16 rfl
  obtain ⟨T18, X18, e18, st18⟩ := getF X12 hx hZ hown (host := "") (Or.inl (own_w hw 23 rfl)) Via.refl e12 (F_ONE_path.ext O12.2) (g := (mkF m 23 #[.val (.ref b10), .val (.ref b12), .val (.int (0 : Int32))] [(.ref a_ONE), (.int (0 : Int32)), (.ref b12)])) rfl rfl (hb hby d_prog_58_method_5_code_23)
  obtain ⟨cl19, Ar19, q19, Sz19, Nn19, Hs19, Gf19⟩ := id V12
  have hin20 : ¬ ((0 : Int32) < 0 ∨ cl19.slots.size ≤ ((0 : Int32)).toNatClampNeg) := inb_of Sz19 ⟨by decide, by decide⟩
  obtain ⟨T21, h21, X21, e21, W21, st21⟩ := stR X18 hx hZ e18 Ar19 (j := (0 : Int32)) hin20 rfl (Sto.ofV Ar19 q19 Ov12 (Ins.self (E_ONE_path.ext O12.2))) (g := (mkF m 26 #[.val (.ref b10), .val (.ref b12), .val (.int (0 : Int32))] [(.ref a_ONE_path), (.int (0 : Int32)), (.ref b12)])) rfl rfl (hb hby d_prog_58_method_5_code_26)
  have V21 : Arv Z h21 b12 c12 (.object "java/lang/String") (2 : Int32) [(.ref a_ONE_path), .null] .null := Arv.set Ar19 q19 Sz19 Nn19 Hs19 Gf19 rfl W21 0 rfl (Nat.le_of_ble_eq_true rfl)
  have N21 := Fr.snoc X21 N10 g_b12
  have O21 := O12.wr W21 g_b12
  have K21 := K12.wr W21 (Or.inr s_b12)
  have ne22 : ¬ (b10 = b12) := (Nat.ne_of_lt (Nat.lt_of_lt_of_le lt_b10 (Nat.le_of_eq g12.symm)))
  have f23 := (f13.other W21 ne22)
  obtain ⟨cl24, Ar24, q24, Sz24, Nn24, Hs24, Gf24⟩ := id f23
  obtain ⟨cl25, Ar25, q25, Sz25, Nn25, Hs25, Gf25⟩ := id f23
  have hin26 : ¬ ((1 : Int32) < 0 ∨ cl25.slots.size ≤ ((1 : Int32)).toNatClampNeg) := inb_of Sz25 ⟨by decide, by decide⟩
  have hat27 : cl25.slots[((1 : Int32)).toNatClampNeg]? = some (.ref a_BATCH) := Hs25.at hin26 rfl
  obtain ⟨T28, X28, e28, st28⟩ := getF X21 hx hZ hown (host := "") (Or.inl (own_w hw 23 rfl)) Via.refl e21 (F_BATCH_path.ext O21.2) (g := (mkF m 23 #[.val (.ref b10), .val (.ref b12), .val (.int (1 : Int32))] [(.ref a_BATCH), (.int (1 : Int32)), (.ref b12)])) rfl rfl (hb hby d_prog_58_method_5_code_23)
  obtain ⟨cl29, Ar29, q29, Sz29, Nn29, Hs29, Gf29⟩ := id V21
  have hin30 : ¬ ((1 : Int32) < 0 ∨ cl29.slots.size ≤ ((1 : Int32)).toNatClampNeg) := inb_of Sz29 ⟨by decide, by decide⟩
  obtain ⟨T31, h31, X31, e31, W31, st31⟩ := stR X28 hx hZ e28 Ar29 (j := (1 : Int32)) hin30 rfl (Sto.ofV Ar29 q29 Ov12 (Ins.self (E_BATCH_path.ext O21.2))) (g := (mkF m 26 #[.val (.ref b10), .val (.ref b12), .val (.int (1 : Int32))] [(.ref a_BATCH_path), (.int (1 : Int32)), (.ref b12)])) rfl rfl (hb hby d_prog_58_method_5_code_26)
  have V31 : Arv Z h31 b12 c12 (.object "java/lang/String") (2 : Int32) [(.ref a_ONE_path), (.ref a_BATCH_path)] .null := Arv.set Ar29 q29 Sz29 Nn29 Hs29 Gf29 rfl W31 1 rfl (Nat.le_of_ble_eq_true rfl)
  have N31 := Fr.snoc X31 N21 g_b12
  have O31 := O21.wr W31 g_b12
  have K31 := K21.wr W31 (Or.inr s_b12)
  have f32 := (f23.other W31 ne22)
  obtain ⟨cl33, Ar33, q33, Sz33, Nn33, Hs33, Gf33⟩ := id f32
  have k34 : ∀ t, own_At p e below m T31 34 #[.val (.ref b10), .val (.ref b12), .val (.int (2 : Int32))] [(.ref b12)] t → own_En p e below m s₁ #[] 3 t := by
    intro t k
    refine k00 t ?_
    refine st10 _ ?_
    show own_At p e below m T10 3 #[.unset, .unset, .unset] [(.ref b10)] t
    refine XS.astoreN X10.here hx rfl (hb hby d_prog_58_method_5_code_3) rfl rfl (l' := #[.val (.ref b10), .unset, .unset]) rfl ?_
    show own_At p e below m T10 4 #[.val (.ref b10), .unset, .unset] [] t
    refine XS.aloadN X10.here hx rfl (hb hby d_prog_58_method_5_code_4) rfl rfl ?_
    show own_At p e below m T10 5 #[.val (.ref b10), .unset, .unset] [(.ref b10)] t
    refine X10.arraylength hx (by exact Ar11.1) (State.isArrayOf_alike hZ.alike Ar11.2.1) (g := (mkF m 5 #[.val (.ref b10), .unset, .unset] [(.ref b10)])) rfl rfl (hb hby d_prog_58_method_5_code_5) _ ?_
    rw [len_of Sz11 Nn11]
    show own_At p e below m T10 6 #[.val (.ref b10), .unset, .unset] [(.int (2 : Int32))] t
    refine st12 _ ?_
    show own_At p e below m T12 9 #[.val (.ref b10), .unset, .unset] [(.ref b12)] t
    refine XS.astoreN X12.here hx rfl (hb hby d_prog_58_method_5_code_9) rfl rfl (l' := #[.val (.ref b10), .val (.ref b12), .unset]) rfl ?_
    show own_At p e below m T12 10 #[.val (.ref b10), .val (.ref b12), .unset] [] t
    refine XS.iconst X12.here hx rfl (hb hby d_prog_58_method_5_code_10) ?_
    show own_At p e below m T12 11 #[.val (.ref b10), .val (.ref b12), .unset] [(.int (0 : Int32))] t
    refine XS.istoreN X12.here hx rfl (hb hby d_prog_58_method_5_code_11) rfl (l' := #[.val (.ref b10), .val (.ref b12), .val (.int (0 : Int32))]) rfl ?_
    show own_At p e below m T12 12 #[.val (.ref b10), .val (.ref b12), .val (.int (0 : Int32))] [] t
    refine XS.iloadN X12.here hx rfl (hb hby d_prog_58_method_5_code_12) rfl ?_
    show own_At p e below m T12 13 #[.val (.ref b10), .val (.ref b12), .val (.int (0 : Int32))] [(.int (0 : Int32))] t
    refine XS.aloadN X12.here hx rfl (hb hby d_prog_58_method_5_code_13) rfl rfl ?_
    show own_At p e below m T12 14 #[.val (.ref b10), .val (.ref b12), .val (.int (0 : Int32))] [(.ref b10), (.int (0 : Int32))] t
    refine X12.arraylength hx (by rw [e12]; exact Ar14.1) (State.isArrayOf_alike hZ.alike Ar14.2.1) (g := (mkF m 14 #[.val (.ref b10), .val (.ref b12), .val (.int (0 : Int32))] [(.ref b10), (.int (0 : Int32))])) rfl rfl (hb hby d_prog_58_method_5_code_14) _ ?_
    rw [len_of Sz14 Nn14]
    show own_At p e below m T12 15 #[.val (.ref b10), .val (.ref b12), .val (.int (0 : Int32))] [(.int (2 : Int32)), (.int (0 : Int32))] t
    refine XS.icmpNo X12.here hx rfl (hb hby d_prog_58_method_5_code_15) rfl (tlt (by decide : (0 : Int32) < (2 : Int32))).2.1 ?_
    show own_At p e below m T12 18 #[.val (.ref b10), .val (.ref b12), .val (.int (0 : Int32))] [] t
    refine XS.aloadN X12.here hx rfl (hb hby d_prog_58_method_5_code_18) rfl rfl ?_
    show own_At p e below m T12 19 #[.val (.ref b10), .val (.ref b12), .val (.int (0 : Int32))] [(.ref b12)] t
    refine XS.iloadN X12.here hx rfl (hb hby d_prog_58_method_5_code_19) rfl ?_
    show own_At p e below m T12 20 #[.val (.ref b10), .val (.ref b12), .val (.int (0 : Int32))] [(.int (0 : Int32)), (.ref b12)] t
    refine XS.aloadN X12.here hx rfl (hb hby d_prog_58_method_5_code_20) rfl rfl ?_
    show own_At p e below m T12 21 #[.val (.ref b10), .val (.ref b12), .val (.int (0 : Int32))] [(.ref b10), (.int (0 : Int32)), (.ref b12)] t
    refine XS.iloadN X12.here hx rfl (hb hby d_prog_58_method_5_code_21) rfl ?_
    show own_At p e below m T12 22 #[.val (.ref b10), .val (.ref b12), .val (.int (0 : Int32))] [(.int (0 : Int32)), (.ref b10), (.int (0 : Int32)), (.ref b12)] t
    refine X12.aaload hx (j := (0 : Int32)) (v := (.ref a_ONE)) (by rw [e12]; exact Ar15.1) (State.isArrayOf_alike hZ.alike Ar15.2.1) rfl Ar15.2.2 hin16 hat17 (g := (mkF m 22 #[.val (.ref b10), .val (.ref b12), .val (.int (0 : Int32))] [(.int (0 : Int32)), (.ref b10), (.int (0 : Int32)), (.ref b12)])) rfl rfl (hb hby d_prog_58_method_5_code_22) _ ?_
    show own_At p e below m T12 23 #[.val (.ref b10), .val (.ref b12), .val (.int (0 : Int32))] [(.ref a_ONE), (.int (0 : Int32)), (.ref b12)] t
    refine st18 _ ?_
    show own_At p e below m T18 26 #[.val (.ref b10), .val (.ref b12), .val (.int (0 : Int32))] [(.ref a_ONE_path), (.int (0 : Int32)), (.ref b12)] t
    refine st21 _ ?_
    show own_At p e below m T21 27 #[.val (.ref b10), .val (.ref b12), .val (.int (0 : Int32))] [] t
    refine XS.iinc X21.here hx rfl (hb hby d_prog_58_method_5_code_27) rfl (l' := #[.val (.ref b10), .val (.ref b12), .val (.int ((0 : Int32) + (1 : Int32)))]) rfl ?_
    show own_At p e below m T21 30 #[.val (.ref b10), .val (.ref b12), .val (.int ((0 : Int32) + (1 : Int32)))] [] t
    rw [show ((0 : Int32) + (1 : Int32)) = (1 : Int32) from by decide]
    show own_At p e below m T21 30 #[.val (.ref b10), .val (.ref b12), .val (.int (1 : Int32))] [] t
    refine XS.goto X21.here hx rfl (pc0 := 30) (pc' := 12) rfl (hb hby d_prog_58_method_5_code_30) (by decide) (by decide) ?_
    show own_At p e below m T21 12 #[.val (.ref b10), .val (.ref b12), .val (.int (1 : Int32))] [] t
    refine XS.iloadN X21.here hx rfl (hb hby d_prog_58_method_5_code_12) rfl ?_
    show own_At p e below m T21 13 #[.val (.ref b10), .val (.ref b12), .val (.int (1 : Int32))] [(.int (1 : Int32))] t
    refine XS.aloadN X21.here hx rfl (hb hby d_prog_58_method_5_code_13) rfl rfl ?_
    show own_At p e below m T21 14 #[.val (.ref b10), .val (.ref b12), .val (.int (1 : Int32))] [(.ref b10), (.int (1 : Int32))] t
    refine X21.arraylength hx (by rw [e21]; exact Ar24.1) (State.isArrayOf_alike hZ.alike Ar24.2.1) (g := (mkF m 14 #[.val (.ref b10), .val (.ref b12), .val (.int (1 : Int32))] [(.ref b10), (.int (1 : Int32))])) rfl rfl (hb hby d_prog_58_method_5_code_14) _ ?_
    rw [len_of Sz24 Nn24]
    show own_At p e below m T21 15 #[.val (.ref b10), .val (.ref b12), .val (.int (1 : Int32))] [(.int (2 : Int32)), (.int (1 : Int32))] t
    refine XS.icmpNo X21.here hx rfl (hb hby d_prog_58_method_5_code_15) rfl (tlt (by decide : (1 : Int32) < (2 : Int32))).2.1 ?_
    show own_At p e below m T21 18 #[.val (.ref b10), .val (.ref b12), .val (.int (1 : Int32))] [] t
    refine XS.aloadN X21.here hx rfl (hb hby d_prog_58_method_5_code_18) rfl rfl ?_
    show own_At p e below m T21 19 #[.val (.ref b10), .val (.ref b12), .val (.int (1 : Int32))] [(.ref b12)] t
    refine XS.iloadN X21.here hx rfl (hb hby d_prog_58_method_5_code_19) rfl ?_
    show own_At p e below m T21 20 #[.val (.ref b10), .val (.ref b12), .val (.int (1 : Int32))] [(.int (1 : Int32)), (.ref b12)] t
    refine XS.aloadN X21.here hx rfl (hb hby d_prog_58_method_5_code_20) rfl rfl ?_
    show own_At p e below m T21 21 #[.val (.ref b10), .val (.ref b12), .val (.int (1 : Int32))] [(.ref b10), (.int (1 : Int32)), (.ref b12)] t
    refine XS.iloadN X21.here hx rfl (hb hby d_prog_58_method_5_code_21) rfl ?_
    show own_At p e below m T21 22 #[.val (.ref b10), .val (.ref b12), .val (.int (1 : Int32))] [(.int (1 : Int32)), (.ref b10), (.int (1 : Int32)), (.ref b12)] t
    refine X21.aaload hx (j := (1 : Int32)) (v := (.ref a_BATCH)) (by rw [e21]; exact Ar25.1) (State.isArrayOf_alike hZ.alike Ar25.2.1) rfl Ar25.2.2 hin26 hat27 (g := (mkF m 22 #[.val (.ref b10), .val (.ref b12), .val (.int (1 : Int32))] [(.int (1 : Int32)), (.ref b10), (.int (1 : Int32)), (.ref b12)])) rfl rfl (hb hby d_prog_58_method_5_code_22) _ ?_
    show own_At p e below m T21 23 #[.val (.ref b10), .val (.ref b12), .val (.int (1 : Int32))] [(.ref a_BATCH), (.int (1 : Int32)), (.ref b12)] t
    refine st28 _ ?_
    show own_At p e below m T28 26 #[.val (.ref b10), .val (.ref b12), .val (.int (1 : Int32))] [(.ref a_BATCH_path), (.int (1 : Int32)), (.ref b12)] t
    refine st31 _ ?_
    show own_At p e below m T31 27 #[.val (.ref b10), .val (.ref b12), .val (.int (1 : Int32))] [] t
    refine XS.iinc X31.here hx rfl (hb hby d_prog_58_method_5_code_27) rfl (l' := #[.val (.ref b10), .val (.ref b12), .val (.int ((1 : Int32) + (1 : Int32)))]) rfl ?_
    show own_At p e below m T31 30 #[.val (.ref b10), .val (.ref b12), .val (.int ((1 : Int32) + (1 : Int32)))] [] t
    rw [show ((1 : Int32) + (1 : Int32)) = (2 : Int32) from by decide]
    show own_At p e below m T31 30 #[.val (.ref b10), .val (.ref b12), .val (.int (2 : Int32))] [] t
    refine XS.goto X31.here hx rfl (pc0 := 30) (pc' := 12) rfl (hb hby d_prog_58_method_5_code_30) (by decide) (by decide) ?_
    show own_At p e below m T31 12 #[.val (.ref b10), .val (.ref b12), .val (.int (2 : Int32))] [] t
    refine XS.iloadN X31.here hx rfl (hb hby d_prog_58_method_5_code_12) rfl ?_
    show own_At p e below m T31 13 #[.val (.ref b10), .val (.ref b12), .val (.int (2 : Int32))] [(.int (2 : Int32))] t
    refine XS.aloadN X31.here hx rfl (hb hby d_prog_58_method_5_code_13) rfl rfl ?_
    show own_At p e below m T31 14 #[.val (.ref b10), .val (.ref b12), .val (.int (2 : Int32))] [(.ref b10), (.int (2 : Int32))] t
    refine X31.arraylength hx (by rw [e31]; exact Ar33.1) (State.isArrayOf_alike hZ.alike Ar33.2.1) (g := (mkF m 14 #[.val (.ref b10), .val (.ref b12), .val (.int (2 : Int32))] [(.ref b10), (.int (2 : Int32))])) rfl rfl (hb hby d_prog_58_method_5_code_14) _ ?_
    rw [len_of Sz33 Nn33]
    show own_At p e below m T31 15 #[.val (.ref b10), .val (.ref b12), .val (.int (2 : Int32))] [(.int (2 : Int32)), (.int (2 : Int32))] t
    refine XS.icmpYes X31.here hx rfl (pc0 := 15) (pc' := 33) rfl (hb hby d_prog_58_method_5_code_15) rfl (flt (by decide : ¬ ((2 : Int32) < (2 : Int32)))).2.1 (by decide) (by decide) ?_
    show own_At p e below m T31 33 #[.val (.ref b10), .val (.ref b12), .val (.int (2 : Int32))] [] t
    refine XS.aloadN X31.here hx rfl (hb hby d_prog_58_method_5_code_33) rfl rfl ?_
    show own_At p e below m T31 34 #[.val (.ref b10), .val (.ref b12), .val (.int (2 : Int32))] [(.ref b12)] t
    exact k
  obtain ⟨fs, hr, hrun, hended, hW, hsame⟩ := X31.leave (v := some (.ref b12)) (fun h => by rw [Bd.returns] at h; cases h)
  refine hNG ⟨_, _, k34 _ ?_, hrun, hended, _, _, rfl, ?_, ⟨_, rfl⟩, hW, hsame.mono (by decide) (by decide)⟩
  · exact retOut X31 hx (t := (.array (.object "java/lang/String"))) Bd.returns rfl (Or.inr (Or.inr (Or.inr (Or.inr ⟨rfl, rfl, rfl⟩)))) (hb hby d_prog_58_method_5_code_34) hr
  · show Q_pt Z a__VALUES a_ONE a_BATCH a_ONE_path a_BATCH_path a_ONE_path_value a_BATCH_path_value z_COMPACT_STRINGS r_SIOOBE_FORMATTER h0 n0 _ T31.heap _
    rw [e31]
    exact ⟨b12, c12, rfl, N31, O31, K31, g_b12, s_b12, V31⟩
theorem ef_of_ONE (m : MethodId) (x0 : Addr)  : entryFrame m #[(.ref x0)] 5 = mkF m 0 #[.val (.ref x0), .unset, .unset, .unset, .unset] [] := by first | (simp [entryFrame, mkF, argsToLocals, Value.category]; done) | rfl
theorem d_prog_58_method_6_code_0 : decode prog_58_method_6_code 0 = .ok (.invokestatic 33, 3) := by decide +kernel
theorem d_prog_58_method_6_code_3 : decode prog_58_method_6_code 3 = .ok (.astore_n 1, 1) := by decide +kernel
theorem d_prog_58_method_6_code_4 : decode prog_58_method_6_code 4 = .ok (.aload_n 1, 1) := by decide +kernel
theorem d_prog_58_method_6_code_5 : decode prog_58_method_6_code 5 = .ok (.arraylength, 1) := by decide +kernel
theorem d_prog_58_method_6_code_6 : decode prog_58_method_6_code 6 = .ok (.istore_n 2, 1) := by decide +kernel
theorem d_prog_58_method_6_code_7 : decode prog_58_method_6_code 7 = .ok (.iconst 0, 1) := by decide +kernel
theorem d_prog_58_method_6_code_8 : decode prog_58_method_6_code 8 = .ok (.istore_n 3, 1) := by decide +kernel
theorem d_prog_58_method_6_code_9 : decode prog_58_method_6_code 9 = .ok (.iload_n 3, 1) := by decide +kernel
theorem d_prog_58_method_6_code_10 : decode prog_58_method_6_code 10 = .ok (.iload_n 2, 1) := by decide +kernel
theorem d_prog_58_method_6_code_11 : decode prog_58_method_6_code 11 = .ok (.if_icmp .ge 29, 3) := by decide +kernel
theorem d_prog_58_method_6_code_14 : decode prog_58_method_6_code 14 = .ok (.aload_n 1, 1) := by decide +kernel
theorem d_prog_58_method_6_code_15 : decode prog_58_method_6_code 15 = .ok (.iload_n 3, 1) := by decide +kernel
theorem d_prog_58_method_6_code_16 : decode prog_58_method_6_code 16 = .ok (.aaload, 1) := by decide +kernel
theorem d_prog_58_method_6_code_17 : decode prog_58_method_6_code 17 = .ok (.astore 4, 2) := by decide +kernel
theorem d_prog_58_method_6_code_19 : decode prog_58_method_6_code 19 = .ok (.aload 4, 2) := by decide +kernel
theorem d_prog_58_method_6_code_21 : decode prog_58_method_6_code 21 = .ok (.getfield 29, 3) := by decide +kernel
theorem d_prog_58_method_6_code_24 : decode prog_58_method_6_code 24 = .ok (.aload_n 0, 1) := by decide +kernel
theorem d_prog_58_method_6_code_25 : decode prog_58_method_6_code 25 = .ok (.invokevirtual 39, 3) := by decide +kernel
theorem ef_eqsame (m : MethodId) (x0 : Addr) (x1 : Addr)  : entryFrame m #[(.ref x0), (.ref x1)] 3 = mkF m 0 #[.val (.ref x0), .val (.ref x1), .unset] [] := by first | (simp [entryFrame, mkF, argsToLocals, Value.category]; done) | rfl
theorem d_jdk_42_method_66_code_0 : decode jdk_42_method_66_code 0 = .ok (.aload_n 0, 1) := by decide +kernel
theorem d_jdk_42_method_66_code_1 : decode jdk_42_method_66_code 1 = .ok (.aload_n 1, 1) := by decide +kernel
theorem d_jdk_42_method_66_code_2 : decode jdk_42_method_66_code 2 = .ok (.if_acmp .ne 5, 3) := by decide +kernel
theorem d_jdk_42_method_66_code_5 : decode jdk_42_method_66_code 5 = .ok (.iconst 1, 1) := by decide +kernel
theorem d_jdk_42_method_66_code_6 : decode jdk_42_method_66_code 6 = .ok (.ireturn, 1) := by decide +kernel
theorem pn_java_lang_String : plainName "java/lang/String" = true := by first | (simp [plainName, overriddenIn]; done) | decide +kernel
abbrev own_m2 : MethodName := ⟨"java/lang/String", "equals", "(Ljava/lang/Object;)Z"⟩
def Q_eqsame (Z : State) (q0 : Addr) (a__VALUES : Addr) (a_ONE : Addr) (a_BATCH : Addr) (a_ONE_path : Addr) (a_BATCH_path : Addr) (a_ONE_path_value : Addr) (a_BATCH_path_value : Addr) (z_COMPACT_STRINGS : Int32) (r_SIOOBE_FORMATTER : Value) (h0 : Heap) (n0 : Nat) (v : Option Value) (h : Heap) (L : List Loc) : Prop := v = some (.int (1 : Int32)) ∧ Fr n0 L ∧ h = h0
set_option maxRecDepth 65536 in
set_option maxHeartbeats 40000000 in
theorem rm_eqsame (l : Launch) (Z : State) (a0 : Array Value) (hw : ∀ d ∈ tables_1, d.before a0 Z = true) (ws : List Jvm.Cond) (q0 : Addr) (a__VALUES : Addr) (a_ONE : Addr) (a_BATCH : Addr) (a_ONE_path : Addr) (a_BATCH_path : Addr) (a_ONE_path_value : Addr) (a_BATCH_path_value : Addr) (z_COMPACT_STRINGS : Int32) (r_SIOOBE_FORMATTER : Value) (h0 : Heap) (n0 : Nat) (O0 : Old Z n0 h0) (hE : EV Z a__VALUES a_ONE a_BATCH a_ONE_path a_BATCH_path a_ONE_path_value a_BATCH_path_value z_COMPACT_STRINGS r_SIOOBE_FORMATTER) :
    MetFree l own_m2 (head1 (Jvm.Cond.code own_m2 jdk_42_method_66_code 3 (some .boolean) :: ws) ({ frames := 0, cells := 0, slots := 0, locals := 0 } : Room)) (fun a U => a = #[(.ref q0), (.ref q0)] ∧ Z.Warmed39 U.vm ∧ U.heap = h0) (fun _ _ _ _ _ => True) (fun _ U o U' => ∃ v L, o = .returned v ∧ Q_eqsame Z q0 a__VALUES a_ONE a_BATCH a_ONE_path a_BATCH_path a_ONE_path_value a_BATCH_path_value z_COMPACT_STRINGS r_SIOOBE_FORMATTER h0 n0 v U'.heap L ∧ FrameEnd U o U' L ({ frames := 0, cells := 0, slots := 0, locals := 0 } : Room).cells ({ frames := 0, cells := 0, slots := 0, locals := 0 } : Room).slots) := by
  refine MetFree.of_bodySF (plainFor_of_name pn_java_lang_String) hisR ?_
  intro p e s m args below meth c s₁ Bd hml0 hP hK
  obtain ⟨rfl, hZ, hh⟩ := hP
  have hx := Bd.exec
  have hby := Bd.bytes
  have hml : c.maxLocals = 3 := hml0
  have hown : s.vm.findClass "java/lang/String" = some m.cls := findClass_of_methodNamed Bd.named
  have hnm := (name_of_methodNamed Bd.named Bd.method).1
  have X00 : Stand p l e ({ frames := 0, cells := 0, slots := 0, locals := 0 } : Room) s m #[(.ref q0), (.ref q0)] below meth c s₁ [] 0 0 := Stand.of_body Bd
  have e00 : s₁.heap = h0 := by rw [← hh, Bd.state]; rfl
  have N00 := Fr.nil n0
  refine Classical.byContradiction fun hNG => ?_
  have K00 := Keep.refl h0 []
  have k00 : ∀ t, own_At p e below m s₁ 0 #[.val (.ref q0), .val (.ref q0), .unset] [] t → own_En p e below m s₁ #[(.ref q0), (.ref q0)] 3 t := fun t k => castTop (ef_eqsame m q0 q0 ) k
  obtain ⟨S__VALUES, E__VALUES, S_ONE, E_ONE, S_BATCH, E_BATCH, F_ONE_path, E_ONE_path, F_BATCH_path, E_BATCH_path, F_ONE_path_coder, F_ONE_path_value, F_BATCH_path_coder, F_BATCH_path_value, ne_BATCH_path_ONE_path, S_COMPACT_STRINGS, nz_COMPACT_STRINGS, S_SIOOBE_FORMATTER, iS_SIOOBE_FORMATTER, C__VALUES, C_ONE_path_value, C_BATCH_path_value⟩ := (id hE : EV Z a__VALUES a_ONE a_BATCH a_ONE_path a_BATCH_path a_ONE_path_value a_BATCH_path_value z_COMPACT_STRINGS r_SIOOBE_FORMATTER)
  obtain ⟨kw_ONE_path, Aw_ONE_path⟩ := C_ONE_path_value.arv
  obtain ⟨kw_BATCH_path, Aw_BATCH_path⟩ := C_BATCH_path_value.arv
  have k10 : ∀ t, own_At p e below m s₁ 6 #[.val (.ref q0), .val (.ref q0), .unset] [(.int (1 : Int32))] t → own_En p e below m s₁ #[(.ref q0), (.ref q0)] 3 t := by
    intro t k
    refine k00 t ?_
    refine XS.aloadN X00.here hx rfl (hb hby d_jdk_42_method_66_code_0) rfl rfl ?_
    show own_At p e below m s₁ 1 #[.val (.ref q0), .val (.ref q0), .unset] [(.ref q0)] t
    refine XS.aloadN X00.here hx rfl (hb hby d_jdk_42_method_66_code_1) rfl rfl ?_
    show own_At p e below m s₁ 2 #[.val (.ref q0), .val (.ref q0), .unset] [(.ref q0), (.ref q0)] t
    refine Jvm.RoadKit.acmp (g := (mkF m 2 #[.val (.ref q0), .val (.ref q0), .unset] [(.ref q0), (.ref q0)])) X00 hx rfl rfl rfl (pc0 := 2) (pc' := 5) (same := true) rfl (hb hby d_jdk_42_method_66_code_2) rfl (decide_eq_true rfl) (by decide) (by decide) ?_
    show own_At p e below m s₁ 5 #[.val (.ref q0), .val (.ref q0), .unset] [] t
    refine XS.iconst X00.here hx rfl (hb hby d_jdk_42_method_66_code_5) ?_
    show own_At p e below m s₁ 6 #[.val (.ref q0), .val (.ref q0), .unset] [(.int (1 : Int32))] t
    exact k
  obtain ⟨fs, hr, hrun, hended, hW, hsame⟩ := X00.leave (v := some (.int (1 : Int32))) (fun h => by rw [Bd.returns] at h; cases h)
  refine hNG ⟨_, _, k10 _ ?_, hrun, hended, _, _, rfl, ?_, ⟨_, rfl⟩, hW, hsame.mono (by decide) (by decide)⟩
  · exact retN X00 hx (t := .boolean) Bd.returns (by simp) (hb hby d_jdk_42_method_66_code_6) hr
  · show Q_eqsame Z q0 a__VALUES a_ONE a_BATCH a_ONE_path a_BATCH_path a_ONE_path_value a_BATCH_path_value z_COMPACT_STRINGS r_SIOOBE_FORMATTER h0 n0 _ s₁.heap _
    rw [e00]
    exact ⟨rfl, N00, rfl⟩
theorem pd__Ljava_lang_Object__Z : parseMethodDescriptor "(Ljava/lang/Object;)Z" = some ⟨[(.object "java/lang/Object")], some .boolean⟩ := by decide +kernel
theorem d_prog_58_method_6_code_28 : decode prog_58_method_6_code 28 = .ok (.ifCond .eq 6, 3) := by decide +kernel
theorem d_prog_58_method_6_code_31 : decode prog_58_method_6_code 31 = .ok (.aload 4, 2) := by decide +kernel
theorem d_prog_58_method_6_code_33 : decode prog_58_method_6_code 33 = .ok (.areturn, 1) := by decide +kernel
abbrev own_m3 : MethodName := ⟨"com/example/kwota/kwota/server/CheckPath", "of", "(Ljava/lang/String;)Lcom/example/kwota/kwota/server/CheckPath;"⟩
def Q_of_ONE (Z : State) (a__VALUES : Addr) (a_ONE : Addr) (a_BATCH : Addr) (a_ONE_path : Addr) (a_BATCH_path : Addr) (a_ONE_path_value : Addr) (a_BATCH_path_value : Addr) (z_COMPACT_STRINGS : Int32) (r_SIOOBE_FORMATTER : Value) (h0 : Heap) (n0 : Nat) (v : Option Value) (h : Heap) (L : List Loc) : Prop := v = some (.ref a_ONE) ∧ Fr n0 L ∧ Old Z n0 h ∧ Keep h0 h []
set_option maxRecDepth 65536 in
set_option maxHeartbeats 40000000 in
theorem rm_of_ONE (l : Launch) (Z : State) (a0 : Array Value) (hw : ∀ d ∈ tables_1, d.before a0 Z = true) (ws : List Jvm.Cond) (a__VALUES : Addr) (a_ONE : Addr) (a_BATCH : Addr) (a_ONE_path : Addr) (a_BATCH_path : Addr) (a_ONE_path_value : Addr) (a_BATCH_path_value : Addr) (z_COMPACT_STRINGS : Int32) (r_SIOOBE_FORMATTER : Value) (h0 : Heap) (n0 : Nat) (O0 : Old Z n0 h0) (hE : EV Z a__VALUES a_ONE a_BATCH a_ONE_path a_BATCH_path a_ONE_path_value a_BATCH_path_value z_COMPACT_STRINGS r_SIOOBE_FORMATTER) :
    MetFree l own_m3 (head1 (Jvm.Cond.code own_m3 prog_58_method_6_code 5 (some (.object "com/example/kwota/kwota/server/CheckPath")) :: ws) ({ frames := 2, cells := 1, slots := 2, locals := 25 } : Room)) (fun a U => a = #[(.ref a_ONE_path)] ∧ Z.Warmed39 U.vm ∧ U.heap = h0) (fun _ _ _ _ _ => True) (fun _ U o U' => ∃ v L, o = .returned v ∧ Q_of_ONE Z a__VALUES a_ONE a_BATCH a_ONE_path a_BATCH_path a_ONE_path_value a_BATCH_path_value z_COMPACT_STRINGS r_SIOOBE_FORMATTER h0 n0 v U'.heap L ∧ FrameEnd U o U' L ({ frames := 2, cells := 1, slots := 2, locals := 25 } : Room).cells ({ frames := 2, cells := 1, slots := 2, locals := 25 } : Room).slots) := by
  refine MetFree.of_bodySF (plainFor_of_name pn_com_example_kwota_kwota_server_CheckPath) hisR ?_
  intro p e s m args below meth c s₁ Bd hml0 hP hK
  obtain ⟨rfl, hZ, hh⟩ := hP
  have hx := Bd.exec
  have hby := Bd.bytes
  have hml : c.maxLocals = 5 := hml0
  have hown : s.vm.findClass "com/example/kwota/kwota/server/CheckPath" = some m.cls := findClass_of_methodNamed Bd.named
  have hnm := (name_of_methodNamed Bd.named Bd.method).1
  have X00 : Stand p l e ({ frames := 2, cells := 1, slots := 2, locals := 25 } : Room) s m #[(.ref a_ONE_path)] below meth c s₁ [] 0 0 := Stand.of_body Bd
  have e00 : s₁.heap = h0 := by rw [← hh, Bd.state]; rfl
  have N00 := Fr.nil n0
  refine Classical.byContradiction fun hNG => ?_
  have K00 := Keep.refl h0 []
  have k00 : ∀ t, own_At p e below m s₁ 0 #[.val (.ref a_ONE_path), .unset, .unset, .unset, .unset] [] t → own_En p e below m s₁ #[(.ref a_ONE_path)] 5 t := fun t k => castTop (ef_of_ONE m a_ONE_path ) k
  obtain ⟨S__VALUES, E__VALUES, S_ONE, E_ONE, S_BATCH, E_BATCH, F_ONE_path, E_ONE_path, F_BATCH_path, E_BATCH_path, F_ONE_path_coder, F_ONE_path_value, F_BATCH_path_coder, F_BATCH_path_value, ne_BATCH_path_ONE_path, S_COMPACT_STRINGS, nz_COMPACT_STRINGS, S_SIOOBE_FORMATTER, iS_SIOOBE_FORMATTER, C__VALUES, C_ONE_path_value, C_BATCH_path_value⟩ := (id hE : EV Z a__VALUES a_ONE a_BATCH a_ONE_path a_BATCH_path a_ONE_path_value a_BATCH_path_value z_COMPACT_STRINGS r_SIOOBE_FORMATTER)
  obtain ⟨kw_ONE_path, Aw_ONE_path⟩ := C_ONE_path_value.arv
  obtain ⟨kw_BATCH_path, Aw_BATCH_path⟩ := C_BATCH_path_value.arv
  obtain ⟨_, _, ⟨T10, L10, k10, n10⟩, -, X10, ⟨Lc10, hQ10, l10, y10, z10⟩, st10⟩ := Jvm.LawKit.callS X00 hx (y := own_m0) hown (mvT hZ (own_w hw 4 rfl)) (mvT hZ (own_w hw 5 rfl)) (mvT hZ (own_w hw 2 rfl)) (mvT hZ (own_w hw 6 rfl)) (by decide) (backOf (W := 0) (rm_vals l Z a0 hw []  _ _ _ _ _ _ _ _ _ h0 n0 O0 hE  ) hZ (own_w hw 6 rfl) (own_w hw 2 rfl) (by decide) (by decide)) (g := (mkF m 0 #[.val (.ref a_ONE_path), .unset, .unset, .unset, .unset] [])) rfl (by rw [hml]; rfl) (argsL := []) (rest := []) (lenOf pd____Lcom_example_kwota_kwota_server_CheckPath_ rfl) rfl (by show 2 * 0 + _ ≤ _; exact Nat.le_of_eq rfl) (hb hby d_prog_58_method_6_code_0) (fun _ _ => ⟨rfl, e00, (by decide : 0 + 1 ≤ _), (by decide : 0 + 2 ≤ _)⟩)
  dsimp only [Pt.U, Pt.locs, Pt.cells, Pt.slots] at X10 l10 y10 z10 st10 hQ10
  subst l10 y10 z10
  obtain ⟨b10, k10, rfl, N10q, O10, Kc10, g_b10, gs_b10, F10_0⟩ := hQ10
  have N10 := Fr.app N00 N10q
  have K10 := K00.trans Kc10 (fun x hx => nomatch hx)
  have s_b10 := Nat.le_trans K00.1 gs_b10
  have lt_b10 := F10_0.lt
  obtain ⟨cl11, Ar11, q11, Sz11, Nn11, Hs11, Gf11⟩ := id F10_0
  obtain ⟨cl12, Ar12, q12, Sz12, Nn12, Hs12, Gf12⟩ := id F10_0
  have hin13 : ¬ ((0 : Int32) < 0 ∨ cl12.slots.size ≤ ((0 : Int32)).toNatClampNeg) := inb_of Sz12 ⟨by decide, by decide⟩
  have hat14 : cl12.slots[((0 : Int32)).toNatClampNeg]? = some (.ref a_ONE) := Hs12.at hin13 rfl
  obtain ⟨T15, X15, e15, st15⟩ := getF X10 hx hZ hown (host := "") (Or.inl (own_w hw 23 rfl)) Via.refl rfl (F_ONE_path.ext O10.2) (g := (mkF m 21 #[.val (.ref a_ONE_path), .val (.ref b10), .val (.int (2 : Int32)), .val (.int (0 : Int32)), .val (.ref a_ONE)] [(.ref a_ONE)])) rfl rfl (hb hby d_prog_58_method_6_code_21)
  obtain ⟨cq16, kq16, q16a, q16b, q16c⟩ := isOf hZ e15 (E_ONE_path.ext O10.2)
  obtain ⟨_, _, ⟨T16, L16, k16, n16⟩, -, X16, ⟨Lc16, hQ16, l16, y16, z16⟩, st16⟩ := X15.virtualBack hx (y := own_m2) (z := own_m2) hown (mvT hZ (own_w hw 58 rfl)) (mvT hZ (own_w hw 35 rfl)) (notFace_of_selects (args := #[]) (mvT hZ (own_w hw 37 rfl))) (mvT hZ (own_w hw 37 rfl)) (mvT hZ (own_w hw 36 rfl)) (by decide) (backOf (W := 0) (rm_eqsame l Z a0 hw [] a_ONE_path _ _ _ _ _ _ _ _ _ T10.heap n0 O10 hE  ) hZ (own_w hw 38 rfl) (own_w hw 27 rfl) (by decide) (by decide)) q16a q16c (g := (mkF m 25 #[.val (.ref a_ONE_path), .val (.ref b10), .val (.int (2 : Int32)), .val (.int (0 : Int32)), .val (.ref a_ONE)] [(.ref a_ONE_path), (.ref a_ONE_path)])) rfl (by rw [hml]; rfl) (Steps.refl _) (argsL := [(.ref a_ONE_path)]) (rest := []) (lenOf pd__Ljava_lang_Object__Z rfl) rfl (by show 2 * 0 + _ ≤ _; exact Nat.le_of_eq rfl) (hb hby d_prog_58_method_6_code_25) (fun _ _ => ⟨rfl, e15, (by decide : 1 + 0 ≤ _), (by decide : 2 + 0 ≤ _)⟩)
  dsimp only [Pt.U, Pt.locs, Pt.cells, Pt.slots] at X16 l16 y16 z16 st16 hQ16
  subst l16 y16 z16
  obtain ⟨rfl, N16q, hp16⟩ := hQ16
  have N16 := Fr.app N10 N16q
  have k17 : ∀ t, own_At p e below m T16 33 #[.val (.ref a_ONE_path), .val (.ref b10), .val (.int (2 : Int32)), .val (.int (0 : Int32)), .val (.ref a_ONE)] [(.ref a_ONE)] t → own_En p e below m s₁ #[(.ref a_ONE_path)] 5 t := by
    intro t k
    refine k00 t ?_
    refine st10 _ ?_
    show own_At p e below m T10 3 #[.val (.ref a_ONE_path), .unset, .unset, .unset, .unset] [(.ref b10)] t
    refine XS.astoreN X10.here hx rfl (hb hby d_prog_58_method_6_code_3) rfl rfl (l' := #[.val (.ref a_ONE_path), .val (.ref b10), .unset, .unset, .unset]) rfl ?_
    show own_At p e below m T10 4 #[.val (.ref a_ONE_path), .val (.ref b10), .unset, .unset, .unset] [] t
    refine XS.aloadN X10.here hx rfl (hb hby d_prog_58_method_6_code_4) rfl rfl ?_
    show own_At p e below m T10 5 #[.val (.ref a_ONE_path), .val (.ref b10), .unset, .unset, .unset] [(.ref b10)] t
    refine X10.arraylength hx (by exact Ar11.1) (State.isArrayOf_alike hZ.alike Ar11.2.1) (g := (mkF m 5 #[.val (.ref a_ONE_path), .val (.ref b10), .unset, .unset, .unset] [(.ref b10)])) rfl rfl (hb hby d_prog_58_method_6_code_5) _ ?_
    rw [len_of Sz11 Nn11]
    show own_At p e below m T10 6 #[.val (.ref a_ONE_path), .val (.ref b10), .unset, .unset, .unset] [(.int (2 : Int32))] t
    refine XS.istoreN X10.here hx rfl (hb hby d_prog_58_method_6_code_6) rfl (l' := #[.val (.ref a_ONE_path), .val (.ref b10), .val (.int (2 : Int32)), .unset, .unset]) rfl ?_
    show own_At p e below m T10 7 #[.val (.ref a_ONE_path), .val (.ref b10), .val (.int (2 : Int32)), .unset, .unset] [] t
    refine XS.iconst X10.here hx rfl (hb hby d_prog_58_method_6_code_7) ?_
    show own_At p e below m T10 8 #[.val (.ref a_ONE_path), .val (.ref b10), .val (.int (2 : Int32)), .unset, .unset] [(.int (0 : Int32))] t
    refine XS.istoreN X10.here hx rfl (hb hby d_prog_58_method_6_code_8) rfl (l' := #[.val (.ref a_ONE_path), .val (.ref b10), .val (.int (2 : Int32)), .val (.int (0 : Int32)), .unset]) rfl ?_
    show own_At p e below m T10 9 #[.val (.ref a_ONE_path), .val (.ref b10), .val (.int (2 : Int32)), .val (.int (0 : Int32)), .unset] [] t
    refine XS.iloadN X10.here hx rfl (hb hby d_prog_58_method_6_code_9) rfl ?_
    show own_At p e below m T10 10 #[.val (.ref a_ONE_path), .val (.ref b10), .val (.int (2 : Int32)), .val (.int (0 : Int32)), .unset] [(.int (0 : Int32))] t
    refine XS.iloadN X10.here hx rfl (hb hby d_prog_58_method_6_code_10) rfl ?_
    show own_At p e below m T10 11 #[.val (.ref a_ONE_path), .val (.ref b10), .val (.int (2 : Int32)), .val (.int (0 : Int32)), .unset] [(.int (2 : Int32)), (.int (0 : Int32))] t
    refine XS.icmpNo X10.here hx rfl (hb hby d_prog_58_method_6_code_11) rfl (tlt (by decide : (0 : Int32) < (2 : Int32))).2.1 ?_
    show own_At p e below m T10 14 #[.val (.ref a_ONE_path), .val (.ref b10), .val (.int (2 : Int32)), .val (.int (0 : Int32)), .unset] [] t
    refine XS.aloadN X10.here hx rfl (hb hby d_prog_58_method_6_code_14) rfl rfl ?_
    show own_At p e below m T10 15 #[.val (.ref a_ONE_path), .val (.ref b10), .val (.int (2 : Int32)), .val (.int (0 : Int32)), .unset] [(.ref b10)] t
    refine XS.iloadN X10.here hx rfl (hb hby d_prog_58_method_6_code_15) rfl ?_
    show own_At p e below m T10 16 #[.val (.ref a_ONE_path), .val (.ref b10), .val (.int (2 : Int32)), .val (.int (0 : Int32)), .unset] [(.int (0 : Int32)), (.ref b10)] t
    refine X10.aaload hx (j := (0 : Int32)) (v := (.ref a_ONE)) (by exact Ar12.1) (State.isArrayOf_alike hZ.alike Ar12.2.1) rfl Ar12.2.2 hin13 hat14 (g := (mkF m 16 #[.val (.ref a_ONE_path), .val (.ref b10), .val (.int (2 : Int32)), .val (.int (0 : Int32)), .unset] [(.int (0 : Int32)), (.ref b10)])) rfl rfl (hb hby d_prog_58_method_6_code_16) _ ?_
    show own_At p e below m T10 17 #[.val (.ref a_ONE_path), .val (.ref b10), .val (.int (2 : Int32)), .val (.int (0 : Int32)), .unset] [(.ref a_ONE)] t
    refine XS.astore X10.here hx rfl (hb hby d_prog_58_method_6_code_17) rfl rfl (l' := #[.val (.ref a_ONE_path), .val (.ref b10), .val (.int (2 : Int32)), .val (.int (0 : Int32)), .val (.ref a_ONE)]) rfl ?_
    show own_At p e below m T10 19 #[.val (.ref a_ONE_path), .val (.ref b10), .val (.int (2 : Int32)), .val (.int (0 : Int32)), .val (.ref a_ONE)] [] t
    refine XS.aload X10.here hx rfl (hb hby d_prog_58_method_6_code_19) rfl rfl ?_
    show own_At p e below m T10 21 #[.val (.ref a_ONE_path), .val (.ref b10), .val (.int (2 : Int32)), .val (.int (0 : Int32)), .val (.ref a_ONE)] [(.ref a_ONE)] t
    refine st15 _ ?_
    show own_At p e below m T15 24 #[.val (.ref a_ONE_path), .val (.ref b10), .val (.int (2 : Int32)), .val (.int (0 : Int32)), .val (.ref a_ONE)] [(.ref a_ONE_path)] t
    refine XS.aloadN X15.here hx rfl (hb hby d_prog_58_method_6_code_24) rfl rfl ?_
    show own_At p e below m T15 25 #[.val (.ref a_ONE_path), .val (.ref b10), .val (.int (2 : Int32)), .val (.int (0 : Int32)), .val (.ref a_ONE)] [(.ref a_ONE_path), (.ref a_ONE_path)] t
    refine st16.trans ?_
    show own_At p e below m T16 28 #[.val (.ref a_ONE_path), .val (.ref b10), .val (.int (2 : Int32)), .val (.int (0 : Int32)), .val (.ref a_ONE)] [(.int (1 : Int32))] t
    refine XS.ifNo X16.here hx rfl (hb hby d_prog_58_method_6_code_28) rfl ((if0 _ _).trans (feq (by decide : ¬ ((1 : Int32) = (0 : Int32)))).1) ?_
    show own_At p e below m T16 31 #[.val (.ref a_ONE_path), .val (.ref b10), .val (.int (2 : Int32)), .val (.int (0 : Int32)), .val (.ref a_ONE)] [] t
    refine XS.aload X16.here hx rfl (hb hby d_prog_58_method_6_code_31) rfl rfl ?_
    show own_At p e below m T16 33 #[.val (.ref a_ONE_path), .val (.ref b10), .val (.int (2 : Int32)), .val (.int (0 : Int32)), .val (.ref a_ONE)] [(.ref a_ONE)] t
    exact k
  obtain ⟨fs, hr, hrun, hended, hW, hsame⟩ := X16.leave (v := some (.ref a_ONE)) (fun h => by rw [Bd.returns] at h; cases h)
  refine hNG ⟨_, _, k17 _ ?_, hrun, hended, _, _, rfl, ?_, ⟨_, rfl⟩, hW, hsame.mono (by decide) (by decide)⟩
  · exact retOut X16 hx (t := (.object "com/example/kwota/kwota/server/CheckPath")) Bd.returns rfl (Or.inr (Or.inr (Or.inr (Or.inr ⟨rfl, rfl, rfl⟩)))) (hb hby d_prog_58_method_6_code_33) hr
  · show Q_of_ONE Z a__VALUES a_ONE a_BATCH a_ONE_path a_BATCH_path a_ONE_path_value a_BATCH_path_value z_COMPACT_STRINGS r_SIOOBE_FORMATTER h0 n0 _ T16.heap _
    rw [hp16]
    exact ⟨rfl, N16, O10, K10⟩
theorem ef_of_BATCH (m : MethodId) (x0 : Addr)  : entryFrame m #[(.ref x0)] 5 = mkF m 0 #[.val (.ref x0), .unset, .unset, .unset, .unset] [] := by first | (simp [entryFrame, mkF, argsToLocals, Value.category]; done) | rfl
theorem ef_leq1 (m : MethodId) (x0 : Addr) (x1 : Addr)  : entryFrame m #[(.ref x0), (.ref x1)] 3 = mkF m 0 #[.val (.ref x0), .val (.ref x1), .unset] [] := by first | (simp [entryFrame, mkF, argsToLocals, Value.category]; done) | rfl
theorem d_jdk_43_method_13_code_0 : decode jdk_43_method_13_code 0 = .ok (.aload_n 0, 1) := by decide +kernel
theorem d_jdk_43_method_13_code_1 : decode jdk_43_method_13_code 1 = .ok (.arraylength, 1) := by decide +kernel
theorem d_jdk_43_method_13_code_2 : decode jdk_43_method_13_code 2 = .ok (.aload_n 1, 1) := by decide +kernel
theorem d_jdk_43_method_13_code_3 : decode jdk_43_method_13_code 3 = .ok (.arraylength, 1) := by decide +kernel
theorem d_jdk_43_method_13_code_4 : decode jdk_43_method_13_code 4 = .ok (.if_icmp .ne 30, 3) := by decide +kernel
theorem d_jdk_43_method_13_code_34 : decode jdk_43_method_13_code 34 = .ok (.iconst 0, 1) := by decide +kernel
theorem d_jdk_43_method_13_code_35 : decode jdk_43_method_13_code 35 = .ok (.ireturn, 1) := by decide +kernel
theorem pn_java_lang_StringLatin1 : plainName "java/lang/StringLatin1" = true := by first | (simp [plainName, overriddenIn]; done) | decide +kernel
abbrev own_m4 : MethodName := ⟨"java/lang/StringLatin1", "equals", "([B[B)Z"⟩
def Q_leq1 (Z : State) (t0 : Addr) (t1 : Addr) (k0 : ClassId) (k1 : ClassId) (a__VALUES : Addr) (a_ONE : Addr) (a_BATCH : Addr) (a_ONE_path : Addr) (a_BATCH_path : Addr) (a_ONE_path_value : Addr) (a_BATCH_path_value : Addr) (z_COMPACT_STRINGS : Int32) (r_SIOOBE_FORMATTER : Value) (h0 : Heap) (n0 : Nat) (v : Option Value) (h : Heap) (L : List Loc) : Prop := v = some (.int (0 : Int32)) ∧ Fr n0 L ∧ h = h0
set_option maxRecDepth 65536 in
set_option maxHeartbeats 40000000 in
theorem rm_leq1 (l : Launch) (Z : State) (a0 : Array Value) (hw : ∀ d ∈ tables_1, d.before a0 Z = true) (ws : List Jvm.Cond) (t0 : Addr) (t1 : Addr) (k0 : ClassId) (k1 : ClassId) (a__VALUES : Addr) (a_ONE : Addr) (a_BATCH : Addr) (a_ONE_path : Addr) (a_BATCH_path : Addr) (a_ONE_path_value : Addr) (a_BATCH_path_value : Addr) (z_COMPACT_STRINGS : Int32) (r_SIOOBE_FORMATTER : Value) (h0 : Heap) (n0 : Nat) (O0 : Old Z n0 h0) (hE : EV Z a__VALUES a_ONE a_BATCH a_ONE_path a_BATCH_path a_ONE_path_value a_BATCH_path_value z_COMPACT_STRINGS r_SIOOBE_FORMATTER) (P0 : Arv Z h0 t0 k0 .byte (9 : Int32) [(.int (47 : Int32)), (.int (118 : Int32)), (.int (49 : Int32)), (.int (47 : Int32)), (.int (99 : Int32)), (.int (104 : Int32)), (.int (101 : Int32)), (.int (99 : Int32)), (.int (107 : Int32))] (.int (0 : Int32))) (P1 : Arv Z h0 t1 k1 .byte (10 : Int32) [(.int (47 : Int32)), (.int (118 : Int32)), (.int (49 : Int32)), (.int (47 : Int32)), (.int (99 : Int32)), (.int (104 : Int32)), (.int (101 : Int32)), (.int (99 : Int32)), (.int (107 : Int32)), (.int (115 : Int32))] (.int (0 : Int32))) :
    MetFree l own_m4 (head1 (Jvm.Cond.code own_m4 jdk_43_method_13_code 3 (some .boolean) :: ws) ({ frames := 0, cells := 0, slots := 0, locals := 0 } : Room)) (fun a U => a = #[(.ref t0), (.ref t1)] ∧ Z.Warmed39 U.vm ∧ U.heap = h0) (fun _ _ _ _ _ => True) (fun _ U o U' => ∃ v L, o = .returned v ∧ Q_leq1 Z t0 t1 k0 k1 a__VALUES a_ONE a_BATCH a_ONE_path a_BATCH_path a_ONE_path_value a_BATCH_path_value z_COMPACT_STRINGS r_SIOOBE_FORMATTER h0 n0 v U'.heap L ∧ FrameEnd U o U' L ({ frames := 0, cells := 0, slots := 0, locals := 0 } : Room).cells ({ frames := 0, cells := 0, slots := 0, locals := 0 } : Room).slots) := by
  refine MetFree.of_bodySF (plainFor_of_name pn_java_lang_StringLatin1) hisR ?_
  intro p e s m args below meth c s₁ Bd hml0 hP hK
  obtain ⟨rfl, hZ, hh⟩ := hP
  have hx := Bd.exec
  have hby := Bd.bytes
  have hml : c.maxLocals = 3 := hml0
  have hown : s.vm.findClass "java/lang/StringLatin1" = some m.cls := findClass_of_methodNamed Bd.named
  have hnm := (name_of_methodNamed Bd.named Bd.method).1
  have X00 : Stand p l e ({ frames := 0, cells := 0, slots := 0, locals := 0 } : Room) s m #[(.ref t0), (.ref t1)] below meth c s₁ [] 0 0 := Stand.of_body Bd
  have e00 : s₁.heap = h0 := by rw [← hh, Bd.state]; rfl
  have N00 := Fr.nil n0
  refine Classical.byContradiction fun hNG => ?_
  have K00 := Keep.refl h0 []
  have k00 : ∀ t, own_At p e below m s₁ 0 #[.val (.ref t0), .val (.ref t1), .unset] [] t → own_En p e below m s₁ #[(.ref t0), (.ref t1)] 3 t := fun t k => castTop (ef_leq1 m t0 t1 ) k
  obtain ⟨S__VALUES, E__VALUES, S_ONE, E_ONE, S_BATCH, E_BATCH, F_ONE_path, E_ONE_path, F_BATCH_path, E_BATCH_path, F_ONE_path_coder, F_ONE_path_value, F_BATCH_path_coder, F_BATCH_path_value, ne_BATCH_path_ONE_path, S_COMPACT_STRINGS, nz_COMPACT_STRINGS, S_SIOOBE_FORMATTER, iS_SIOOBE_FORMATTER, C__VALUES, C_ONE_path_value, C_BATCH_path_value⟩ := (id hE : EV Z a__VALUES a_ONE a_BATCH a_ONE_path a_BATCH_path a_ONE_path_value a_BATCH_path_value z_COMPACT_STRINGS r_SIOOBE_FORMATTER)
  obtain ⟨kw_ONE_path, Aw_ONE_path⟩ := C_ONE_path_value.arv
  obtain ⟨kw_BATCH_path, Aw_BATCH_path⟩ := C_BATCH_path_value.arv
  obtain ⟨cl10, Ar10, q10, Sz10, Nn10, Hs10, Gf10⟩ := id P0
  obtain ⟨cl11, Ar11, q11, Sz11, Nn11, Hs11, Gf11⟩ := id P1
  have k12 : ∀ t, own_At p e below m s₁ 35 #[.val (.ref t0), .val (.ref t1), .unset] [(.int (0 : Int32))] t → own_En p e below m s₁ #[(.ref t0), (.ref t1)] 3 t := by
    intro t k
    refine k00 t ?_
    refine XS.aloadN X00.here hx rfl (hb hby d_jdk_43_method_13_code_0) rfl rfl ?_
    show own_At p e below m s₁ 1 #[.val (.ref t0), .val (.ref t1), .unset] [(.ref t0)] t
    refine X00.arraylength hx (by rw [e00]; exact Ar10.1) (State.isArrayOf_alike hZ.alike Ar10.2.1) (g := (mkF m 1 #[.val (.ref t0), .val (.ref t1), .unset] [(.ref t0)])) rfl rfl (hb hby d_jdk_43_method_13_code_1) _ ?_
    rw [len_of Sz10 Nn10]
    show own_At p e below m s₁ 2 #[.val (.ref t0), .val (.ref t1), .unset] [(.int (9 : Int32))] t
    refine XS.aloadN X00.here hx rfl (hb hby d_jdk_43_method_13_code_2) rfl rfl ?_
    show own_At p e below m s₁ 3 #[.val (.ref t0), .val (.ref t1), .unset] [(.ref t1), (.int (9 : Int32))] t
    refine X00.arraylength hx (by rw [e00]; exact Ar11.1) (State.isArrayOf_alike hZ.alike Ar11.2.1) (g := (mkF m 3 #[.val (.ref t0), .val (.ref t1), .unset] [(.ref t1), (.int (9 : Int32))])) rfl rfl (hb hby d_jdk_43_method_13_code_3) _ ?_
    rw [len_of Sz11 Nn11]
    show own_At p e below m s₁ 4 #[.val (.ref t0), .val (.ref t1), .unset] [(.int (10 : Int32)), (.int (9 : Int32))] t
    refine XS.icmpYes X00.here hx rfl (pc0 := 4) (pc' := 34) rfl (hb hby d_jdk_43_method_13_code_4) rfl (feq (by decide : ¬ ((9 : Int32) = (10 : Int32)))).2 (by decide) (by decide) ?_
    show own_At p e below m s₁ 34 #[.val (.ref t0), .val (.ref t1), .unset] [] t
    refine XS.iconst X00.here hx rfl (hb hby d_jdk_43_method_13_code_34) ?_
    show own_At p e below m s₁ 35 #[.val (.ref t0), .val (.ref t1), .unset] [(.int (0 : Int32))] t
    exact k
  obtain ⟨fs, hr, hrun, hended, hW, hsame⟩ := X00.leave (v := some (.int (0 : Int32))) (fun h => by rw [Bd.returns] at h; cases h)
  refine hNG ⟨_, _, k12 _ ?_, hrun, hended, _, _, rfl, ?_, ⟨_, rfl⟩, hW, hsame.mono (by decide) (by decide)⟩
  · exact retN X00 hx (t := .boolean) Bd.returns (by simp) (hb hby d_jdk_43_method_13_code_35) hr
  · show Q_leq1 Z t0 t1 k0 k1 a__VALUES a_ONE a_BATCH a_ONE_path a_BATCH_path a_ONE_path_value a_BATCH_path_value z_COMPACT_STRINGS r_SIOOBE_FORMATTER h0 n0 _ s₁.heap _
    rw [e00]
    exact ⟨rfl, N00, rfl⟩
theorem ef_eq1 (m : MethodId) (x0 : Addr) (x1 : Addr)  : entryFrame m #[(.ref x0), (.ref x1)] 3 = mkF m 0 #[.val (.ref x0), .val (.ref x1), .unset] [] := by first | (simp [entryFrame, mkF, argsToLocals, Value.category]; done) | rfl
theorem d_jdk_42_method_66_code_7 : decode jdk_42_method_66_code 7 = .ok (.aload_n 1, 1) := by decide +kernel
theorem d_jdk_42_method_66_code_8 : decode jdk_42_method_66_code 8 = .ok (.instanceof 10, 3) := by decide +kernel
theorem d_jdk_42_method_66_code_11 : decode jdk_42_method_66_code 11 = .ok (.ifCond .eq 43, 3) := by decide +kernel
theorem d_jdk_42_method_66_code_14 : decode jdk_42_method_66_code 14 = .ok (.aload_n 1, 1) := by decide +kernel
theorem d_jdk_42_method_66_code_15 : decode jdk_42_method_66_code 15 = .ok (.checkcast 10, 3) := by decide +kernel
theorem d_jdk_42_method_66_code_18 : decode jdk_42_method_66_code 18 = .ok (.astore_n 2, 1) := by decide +kernel
theorem d_jdk_42_method_66_code_19 : decode jdk_42_method_66_code 19 = .ok (.getstatic 38, 3) := by decide +kernel
theorem d_jdk_42_method_66_code_22 : decode jdk_42_method_66_code 22 = .ok (.ifCond .eq 14, 3) := by decide +kernel
theorem d_jdk_42_method_66_code_25 : decode jdk_42_method_66_code 25 = .ok (.aload_n 0, 1) := by decide +kernel
theorem d_jdk_42_method_66_code_26 : decode jdk_42_method_66_code 26 = .ok (.getfield 15, 3) := by decide +kernel
theorem d_jdk_42_method_66_code_29 : decode jdk_42_method_66_code 29 = .ok (.aload_n 2, 1) := by decide +kernel
theorem d_jdk_42_method_66_code_30 : decode jdk_42_method_66_code 30 = .ok (.getfield 15, 3) := by decide +kernel
theorem d_jdk_42_method_66_code_33 : decode jdk_42_method_66_code 33 = .ok (.if_icmp .ne 21, 3) := by decide +kernel
theorem d_jdk_42_method_66_code_36 : decode jdk_42_method_66_code 36 = .ok (.aload_n 0, 1) := by decide +kernel
theorem d_jdk_42_method_66_code_37 : decode jdk_42_method_66_code 37 = .ok (.getfield 9, 3) := by decide +kernel
theorem d_jdk_42_method_66_code_40 : decode jdk_42_method_66_code 40 = .ok (.aload_n 2, 1) := by decide +kernel
theorem d_jdk_42_method_66_code_41 : decode jdk_42_method_66_code 41 = .ok (.getfield 9, 3) := by decide +kernel
theorem d_jdk_42_method_66_code_44 : decode jdk_42_method_66_code 44 = .ok (.invokestatic 541, 3) := by decide +kernel
theorem pd___B_B_Z : parseMethodDescriptor "([B[B)Z" = some ⟨[(.array .byte), (.array .byte)], some .boolean⟩ := by decide +kernel
theorem d_jdk_42_method_66_code_47 : decode jdk_42_method_66_code 47 = .ok (.ifCond .eq 7, 3) := by decide +kernel
theorem d_jdk_42_method_66_code_54 : decode jdk_42_method_66_code 54 = .ok (.iconst 0, 1) := by decide +kernel
theorem d_jdk_42_method_66_code_55 : decode jdk_42_method_66_code 55 = .ok (.ireturn, 1) := by decide +kernel
def Q_eq1 (Z : State) (q0 : Addr) (q1 : Addr) (t0 : Addr) (t1 : Addr) (k0 : ClassId) (k1 : ClassId) (a__VALUES : Addr) (a_ONE : Addr) (a_BATCH : Addr) (a_ONE_path : Addr) (a_BATCH_path : Addr) (a_ONE_path_value : Addr) (a_BATCH_path_value : Addr) (z_COMPACT_STRINGS : Int32) (r_SIOOBE_FORMATTER : Value) (h0 : Heap) (n0 : Nat) (v : Option Value) (h : Heap) (L : List Loc) : Prop := v = some (.int (0 : Int32)) ∧ Fr n0 L ∧ h = h0
set_option maxRecDepth 65536 in
set_option maxHeartbeats 40000000 in
theorem rm_eq1 (l : Launch) (Z : State) (a0 : Array Value) (hw : ∀ d ∈ tables_1, d.before a0 Z = true) (ws : List Jvm.Cond) (q0 : Addr) (q1 : Addr) (t0 : Addr) (t1 : Addr) (k0 : ClassId) (k1 : ClassId) (a__VALUES : Addr) (a_ONE : Addr) (a_BATCH : Addr) (a_ONE_path : Addr) (a_BATCH_path : Addr) (a_ONE_path_value : Addr) (a_BATCH_path_value : Addr) (z_COMPACT_STRINGS : Int32) (r_SIOOBE_FORMATTER : Value) (h0 : Heap) (n0 : Nat) (O0 : Old Z n0 h0) (hE : EV Z a__VALUES a_ONE a_BATCH a_ONE_path a_BATCH_path a_ONE_path_value a_BATCH_path_value z_COMPACT_STRINGS r_SIOOBE_FORMATTER) (P0 : Exa Z h0 q0 "java/lang/String") (P1 : Fld Z h0 q0 "java/lang/String" "coder" "B" (.int (0 : Int32))) (P2 : Fld Z h0 q0 "java/lang/String" "value" "[B" (.ref t0)) (P3 : Arv Z h0 t0 k0 .byte (9 : Int32) [(.int (47 : Int32)), (.int (118 : Int32)), (.int (49 : Int32)), (.int (47 : Int32)), (.int (99 : Int32)), (.int (104 : Int32)), (.int (101 : Int32)), (.int (99 : Int32)), (.int (107 : Int32))] (.int (0 : Int32))) (P4 : Exa Z h0 q1 "java/lang/String") (P5 : Fld Z h0 q1 "java/lang/String" "coder" "B" (.int (0 : Int32))) (P6 : Fld Z h0 q1 "java/lang/String" "value" "[B" (.ref t1)) (P7 : Arv Z h0 t1 k1 .byte (10 : Int32) [(.int (47 : Int32)), (.int (118 : Int32)), (.int (49 : Int32)), (.int (47 : Int32)), (.int (99 : Int32)), (.int (104 : Int32)), (.int (101 : Int32)), (.int (99 : Int32)), (.int (107 : Int32)), (.int (115 : Int32))] (.int (0 : Int32))) (hne : ¬ (q0 = q1)) :
    MetFree l own_m2 (head1 (Jvm.Cond.code own_m2 jdk_42_method_66_code 3 (some .boolean) :: ws) ({ frames := 1, cells := 0, slots := 0, locals := 14 } : Room)) (fun a U => a = #[(.ref q0), (.ref q1)] ∧ Z.Warmed39 U.vm ∧ U.heap = h0) (fun _ _ _ _ _ => True) (fun _ U o U' => ∃ v L, o = .returned v ∧ Q_eq1 Z q0 q1 t0 t1 k0 k1 a__VALUES a_ONE a_BATCH a_ONE_path a_BATCH_path a_ONE_path_value a_BATCH_path_value z_COMPACT_STRINGS r_SIOOBE_FORMATTER h0 n0 v U'.heap L ∧ FrameEnd U o U' L ({ frames := 1, cells := 0, slots := 0, locals := 14 } : Room).cells ({ frames := 1, cells := 0, slots := 0, locals := 14 } : Room).slots) := by
  refine MetFree.of_bodySF (plainFor_of_name pn_java_lang_String) hisR ?_
  intro p e s m args below meth c s₁ Bd hml0 hP hK
  obtain ⟨rfl, hZ, hh⟩ := hP
  have hx := Bd.exec
  have hby := Bd.bytes
  have hml : c.maxLocals = 3 := hml0
  have hown : s.vm.findClass "java/lang/String" = some m.cls := findClass_of_methodNamed Bd.named
  have hnm := (name_of_methodNamed Bd.named Bd.method).1
  have X00 : Stand p l e ({ frames := 1, cells := 0, slots := 0, locals := 14 } : Room) s m #[(.ref q0), (.ref q1)] below meth c s₁ [] 0 0 := Stand.of_body Bd
  have e00 : s₁.heap = h0 := by rw [← hh, Bd.state]; rfl
  have N00 := Fr.nil n0
  refine Classical.byContradiction fun hNG => ?_
  have K00 := Keep.refl h0 []
  have k00 : ∀ t, own_At p e below m s₁ 0 #[.val (.ref q0), .val (.ref q1), .unset] [] t → own_En p e below m s₁ #[(.ref q0), (.ref q1)] 3 t := fun t k => castTop (ef_eq1 m q0 q1 ) k
  obtain ⟨S__VALUES, E__VALUES, S_ONE, E_ONE, S_BATCH, E_BATCH, F_ONE_path, E_ONE_path, F_BATCH_path, E_BATCH_path, F_ONE_path_coder, F_ONE_path_value, F_BATCH_path_coder, F_BATCH_path_value, ne_BATCH_path_ONE_path, S_COMPACT_STRINGS, nz_COMPACT_STRINGS, S_SIOOBE_FORMATTER, iS_SIOOBE_FORMATTER, C__VALUES, C_ONE_path_value, C_BATCH_path_value⟩ := (id hE : EV Z a__VALUES a_ONE a_BATCH a_ONE_path a_BATCH_path a_ONE_path_value a_BATCH_path_value z_COMPACT_STRINGS r_SIOOBE_FORMATTER)
  obtain ⟨kw_ONE_path, Aw_ONE_path⟩ := C_ONE_path_value.arv
  obtain ⟨kw_BATCH_path, Aw_BATCH_path⟩ := C_BATCH_path_value.arv
  obtain ⟨T10, X10, e10, st10⟩ := instY X00 hx hZ hown (own_w hw 39 rfl) e00 (Ins.self P4) (g := (mkF m 8 #[.val (.ref q0), .val (.ref q1), .unset] [(.ref q1)])) rfl rfl (hb hby d_jdk_42_method_66_code_8)
  obtain ⟨T11, X11, e11, st11⟩ := castY X10 hx hZ hown (own_w hw 39 rfl) e10 (Ins.self P4) (g := (mkF m 15 #[.val (.ref q0), .val (.ref q1), .unset] [(.ref q1)])) rfl rfl (hb hby d_jdk_42_method_66_code_15)
  obtain ⟨T12, X12, e12, st12⟩ := getS2 X11 hx hZ hown (host := "") (Or.inl (own_w hw 40 rfl)) Via.refl e11 (S_COMPACT_STRINGS.ext O0.2) (g := (mkF m 19 #[.val (.ref q0), .val (.ref q1), .val (.ref q1)] [])) rfl (hb hby d_jdk_42_method_66_code_19)
  obtain ⟨T13, X13, e13, st13⟩ := getF X12 hx hZ hown (host := "") (Or.inl (own_w hw 41 rfl)) Via.refl e12 P1 (g := (mkF m 26 #[.val (.ref q0), .val (.ref q1), .val (.ref q1)] [(.ref q0)])) rfl rfl (hb hby d_jdk_42_method_66_code_26)
  obtain ⟨T14, X14, e14, st14⟩ := getF X13 hx hZ hown (host := "") (Or.inl (own_w hw 41 rfl)) Via.refl e13 P5 (g := (mkF m 30 #[.val (.ref q0), .val (.ref q1), .val (.ref q1)] [(.ref q1), (.int (0 : Int32))])) rfl rfl (hb hby d_jdk_42_method_66_code_30)
  obtain ⟨T15, X15, e15, st15⟩ := getF X14 hx hZ hown (host := "") (Or.inl (own_w hw 42 rfl)) Via.refl e14 P2 (g := (mkF m 37 #[.val (.ref q0), .val (.ref q1), .val (.ref q1)] [(.ref q0)])) rfl rfl (hb hby d_jdk_42_method_66_code_37)
  obtain ⟨T16, X16, e16, st16⟩ := getF X15 hx hZ hown (host := "") (Or.inl (own_w hw 42 rfl)) Via.refl e15 P6 (g := (mkF m 41 #[.val (.ref q0), .val (.ref q1), .val (.ref q1)] [(.ref q1), (.ref t0)])) rfl rfl (hb hby d_jdk_42_method_66_code_41)
  obtain ⟨_, _, ⟨T17, L17, k17, n17⟩, -, X17, ⟨Lc17, hQ17, l17, y17, z17⟩, st17⟩ := Jvm.LawKit.callS X16 hx (y := own_m4) hown (mvT hZ (own_w hw 43 rfl)) (mvT hZ (own_w hw 44 rfl)) (mvT hZ (own_w hw 45 rfl)) (mvT hZ (own_w hw 46 rfl)) (by decide) (backOf (W := 0) (rm_leq1 l Z a0 hw [] t0 t1 k0 k1 _ _ _ _ _ _ _ _ _ h0 n0 O0 hE P3 P7 ) hZ (own_w hw 46 rfl) (own_w hw 45 rfl) (by decide) (by decide)) (g := (mkF m 44 #[.val (.ref q0), .val (.ref q1), .val (.ref q1)] [(.ref t1), (.ref t0)])) rfl (by rw [hml]; rfl) (argsL := [(.ref t0), (.ref t1)]) (rest := []) (lenOf pd___B_B_Z rfl) rfl (by show 2 * 0 + _ ≤ _; exact Nat.le_of_eq rfl) (hb hby d_jdk_42_method_66_code_44) (fun _ _ => ⟨rfl, e16, (by decide : 0 + 0 ≤ _), (by decide : 0 + 0 ≤ _)⟩)
  dsimp only [Pt.U, Pt.locs, Pt.cells, Pt.slots] at X17 l17 y17 z17 st17 hQ17
  subst l17 y17 z17
  obtain ⟨rfl, N17q, hp17⟩ := hQ17
  have N17 := Fr.app N00 N17q
  have k18 : ∀ t, own_At p e below m T17 55 #[.val (.ref q0), .val (.ref q1), .val (.ref q1)] [(.int (0 : Int32))] t → own_En p e below m s₁ #[(.ref q0), (.ref q1)] 3 t := by
    intro t k
    refine k00 t ?_
    refine XS.aloadN X00.here hx rfl (hb hby d_jdk_42_method_66_code_0) rfl rfl ?_
    show own_At p e below m s₁ 1 #[.val (.ref q0), .val (.ref q1), .unset] [(.ref q0)] t
    refine XS.aloadN X00.here hx rfl (hb hby d_jdk_42_method_66_code_1) rfl rfl ?_
    show own_At p e below m s₁ 2 #[.val (.ref q0), .val (.ref q1), .unset] [(.ref q1), (.ref q0)] t
    refine Jvm.RoadKit.acmp (g := (mkF m 2 #[.val (.ref q0), .val (.ref q1), .unset] [(.ref q1), (.ref q0)])) X00 hx rfl rfl rfl (pc0 := 2) (pc' := 7) (same := false) rfl (hb hby d_jdk_42_method_66_code_2) rfl (decide_eq_false fun q => hne (Value.ref.inj q)) (by decide) (by decide) ?_
    show own_At p e below m s₁ 7 #[.val (.ref q0), .val (.ref q1), .unset] [] t
    refine XS.aloadN X00.here hx rfl (hb hby d_jdk_42_method_66_code_7) rfl rfl ?_
    show own_At p e below m s₁ 8 #[.val (.ref q0), .val (.ref q1), .unset] [(.ref q1)] t
    refine st10 _ ?_
    show own_At p e below m T10 11 #[.val (.ref q0), .val (.ref q1), .unset] [(.int (1 : Int32))] t
    refine XS.ifNo X10.here hx rfl (hb hby d_jdk_42_method_66_code_11) rfl ((if0 _ _).trans (feq (by decide : ¬ ((1 : Int32) = (0 : Int32)))).1) ?_
    show own_At p e below m T10 14 #[.val (.ref q0), .val (.ref q1), .unset] [] t
    refine XS.aloadN X10.here hx rfl (hb hby d_jdk_42_method_66_code_14) rfl rfl ?_
    show own_At p e below m T10 15 #[.val (.ref q0), .val (.ref q1), .unset] [(.ref q1)] t
    refine st11 _ ?_
    show own_At p e below m T11 18 #[.val (.ref q0), .val (.ref q1), .unset] [(.ref q1)] t
    refine XS.astoreN X11.here hx rfl (hb hby d_jdk_42_method_66_code_18) rfl rfl (l' := #[.val (.ref q0), .val (.ref q1), .val (.ref q1)]) rfl ?_
    show own_At p e below m T11 19 #[.val (.ref q0), .val (.ref q1), .val (.ref q1)] [] t
    refine st12 _ ?_
    show own_At p e below m T12 22 #[.val (.ref q0), .val (.ref q1), .val (.ref q1)] [(.int z_COMPACT_STRINGS)] t
    refine XS.ifNo X12.here hx rfl (hb hby d_jdk_42_method_66_code_22) rfl ((if0 _ _).trans (feq nz_COMPACT_STRINGS).1) ?_
    show own_At p e below m T12 25 #[.val (.ref q0), .val (.ref q1), .val (.ref q1)] [] t
    refine XS.aloadN X12.here hx rfl (hb hby d_jdk_42_method_66_code_25) rfl rfl ?_
    show own_At p e below m T12 26 #[.val (.ref q0), .val (.ref q1), .val (.ref q1)] [(.ref q0)] t
    refine st13 _ ?_
    show own_At p e below m T13 29 #[.val (.ref q0), .val (.ref q1), .val (.ref q1)] [(.int (0 : Int32))] t
    refine XS.aloadN X13.here hx rfl (hb hby d_jdk_42_method_66_code_29) rfl rfl ?_
    show own_At p e below m T13 30 #[.val (.ref q0), .val (.ref q1), .val (.ref q1)] [(.ref q1), (.int (0 : Int32))] t
    refine st14 _ ?_
    show own_At p e below m T14 33 #[.val (.ref q0), .val (.ref q1), .val (.ref q1)] [(.int (0 : Int32)), (.int (0 : Int32))] t
    refine XS.icmpNo X14.here hx rfl (hb hby d_jdk_42_method_66_code_33) rfl (teq (by decide : (0 : Int32) = (0 : Int32))).2 ?_
    show own_At p e below m T14 36 #[.val (.ref q0), .val (.ref q1), .val (.ref q1)] [] t
    refine XS.aloadN X14.here hx rfl (hb hby d_jdk_42_method_66_code_36) rfl rfl ?_
    show own_At p e below m T14 37 #[.val (.ref q0), .val (.ref q1), .val (.ref q1)] [(.ref q0)] t
    refine st15 _ ?_
    show own_At p e below m T15 40 #[.val (.ref q0), .val (.ref q1), .val (.ref q1)] [(.ref t0)] t
    refine XS.aloadN X15.here hx rfl (hb hby d_jdk_42_method_66_code_40) rfl rfl ?_
    show own_At p e below m T15 41 #[.val (.ref q0), .val (.ref q1), .val (.ref q1)] [(.ref q1), (.ref t0)] t
    refine st16 _ ?_
    show own_At p e below m T16 44 #[.val (.ref q0), .val (.ref q1), .val (.ref q1)] [(.ref t1), (.ref t0)] t
    refine st17 _ ?_
    show own_At p e below m T17 47 #[.val (.ref q0), .val (.ref q1), .val (.ref q1)] [(.int (0 : Int32))] t
    refine XS.ifYes X17.here hx rfl (pc0 := 47) (pc' := 54) rfl (hb hby d_jdk_42_method_66_code_47) rfl ((if0 _ _).trans (teq (by decide : (0 : Int32) = (0 : Int32))).1) (by decide) (by decide) ?_
    show own_At p e below m T17 54 #[.val (.ref q0), .val (.ref q1), .val (.ref q1)] [] t
    refine XS.iconst X17.here hx rfl (hb hby d_jdk_42_method_66_code_54) ?_
    show own_At p e below m T17 55 #[.val (.ref q0), .val (.ref q1), .val (.ref q1)] [(.int (0 : Int32))] t
    exact k
  obtain ⟨fs, hr, hrun, hended, hW, hsame⟩ := X17.leave (v := some (.int (0 : Int32))) (fun h => by rw [Bd.returns] at h; cases h)
  refine hNG ⟨_, _, k18 _ ?_, hrun, hended, _, _, rfl, ?_, ⟨_, rfl⟩, hW, hsame.mono (by decide) (by decide)⟩
  · exact retN X17 hx (t := .boolean) Bd.returns (by simp) (hb hby d_jdk_42_method_66_code_55) hr
  · show Q_eq1 Z q0 q1 t0 t1 k0 k1 a__VALUES a_ONE a_BATCH a_ONE_path a_BATCH_path a_ONE_path_value a_BATCH_path_value z_COMPACT_STRINGS r_SIOOBE_FORMATTER h0 n0 _ T17.heap _
    rw [hp17]
    exact ⟨rfl, N17, rfl⟩
theorem d_prog_58_method_6_code_34 : decode prog_58_method_6_code 34 = .ok (.iinc 3 1, 3) := by decide +kernel
theorem d_prog_58_method_6_code_37 : decode prog_58_method_6_code 37 = .ok (.goto (-28), 3) := by decide +kernel
def Q_of_BATCH (Z : State) (a__VALUES : Addr) (a_ONE : Addr) (a_BATCH : Addr) (a_ONE_path : Addr) (a_BATCH_path : Addr) (a_ONE_path_value : Addr) (a_BATCH_path_value : Addr) (z_COMPACT_STRINGS : Int32) (r_SIOOBE_FORMATTER : Value) (h0 : Heap) (n0 : Nat) (v : Option Value) (h : Heap) (L : List Loc) : Prop := v = some (.ref a_BATCH) ∧ Fr n0 L ∧ Old Z n0 h ∧ Keep h0 h []
set_option maxRecDepth 65536 in
set_option maxHeartbeats 40000000 in
theorem rm_of_BATCH (l : Launch) (Z : State) (a0 : Array Value) (hw : ∀ d ∈ tables_1, d.before a0 Z = true) (ws : List Jvm.Cond) (a__VALUES : Addr) (a_ONE : Addr) (a_BATCH : Addr) (a_ONE_path : Addr) (a_BATCH_path : Addr) (a_ONE_path_value : Addr) (a_BATCH_path_value : Addr) (z_COMPACT_STRINGS : Int32) (r_SIOOBE_FORMATTER : Value) (h0 : Heap) (n0 : Nat) (O0 : Old Z n0 h0) (hE : EV Z a__VALUES a_ONE a_BATCH a_ONE_path a_BATCH_path a_ONE_path_value a_BATCH_path_value z_COMPACT_STRINGS r_SIOOBE_FORMATTER) :
    MetFree l own_m3 (head1 (Jvm.Cond.code own_m3 prog_58_method_6_code 5 (some (.object "com/example/kwota/kwota/server/CheckPath")) :: ws) ({ frames := 2, cells := 1, slots := 2, locals := 28 } : Room)) (fun a U => a = #[(.ref a_BATCH_path)] ∧ Z.Warmed39 U.vm ∧ U.heap = h0) (fun _ _ _ _ _ => True) (fun _ U o U' => ∃ v L, o = .returned v ∧ Q_of_BATCH Z a__VALUES a_ONE a_BATCH a_ONE_path a_BATCH_path a_ONE_path_value a_BATCH_path_value z_COMPACT_STRINGS r_SIOOBE_FORMATTER h0 n0 v U'.heap L ∧ FrameEnd U o U' L ({ frames := 2, cells := 1, slots := 2, locals := 28 } : Room).cells ({ frames := 2, cells := 1, slots := 2, locals := 28 } : Room).slots) := by
  refine MetFree.of_bodySF (plainFor_of_name pn_com_example_kwota_kwota_server_CheckPath) hisR ?_
  intro p e s m args below meth c s₁ Bd hml0 hP hK
  obtain ⟨rfl, hZ, hh⟩ := hP
  have hx := Bd.exec
  have hby := Bd.bytes
  have hml : c.maxLocals = 5 := hml0
  have hown : s.vm.findClass "com/example/kwota/kwota/server/CheckPath" = some m.cls := findClass_of_methodNamed Bd.named
  have hnm := (name_of_methodNamed Bd.named Bd.method).1
  have X00 : Stand p l e ({ frames := 2, cells := 1, slots := 2, locals := 28 } : Room) s m #[(.ref a_BATCH_path)] below meth c s₁ [] 0 0 := Stand.of_body Bd
  have e00 : s₁.heap = h0 := by rw [← hh, Bd.state]; rfl
  have N00 := Fr.nil n0
  refine Classical.byContradiction fun hNG => ?_
  have K00 := Keep.refl h0 []
  have k00 : ∀ t, own_At p e below m s₁ 0 #[.val (.ref a_BATCH_path), .unset, .unset, .unset, .unset] [] t → own_En p e below m s₁ #[(.ref a_BATCH_path)] 5 t := fun t k => castTop (ef_of_BATCH m a_BATCH_path ) k
  obtain ⟨S__VALUES, E__VALUES, S_ONE, E_ONE, S_BATCH, E_BATCH, F_ONE_path, E_ONE_path, F_BATCH_path, E_BATCH_path, F_ONE_path_coder, F_ONE_path_value, F_BATCH_path_coder, F_BATCH_path_value, ne_BATCH_path_ONE_path, S_COMPACT_STRINGS, nz_COMPACT_STRINGS, S_SIOOBE_FORMATTER, iS_SIOOBE_FORMATTER, C__VALUES, C_ONE_path_value, C_BATCH_path_value⟩ := (id hE : EV Z a__VALUES a_ONE a_BATCH a_ONE_path a_BATCH_path a_ONE_path_value a_BATCH_path_value z_COMPACT_STRINGS r_SIOOBE_FORMATTER)
  obtain ⟨kw_ONE_path, Aw_ONE_path⟩ := C_ONE_path_value.arv
  obtain ⟨kw_BATCH_path, Aw_BATCH_path⟩ := C_BATCH_path_value.arv
  obtain ⟨_, _, ⟨T10, L10, k10, n10⟩, -, X10, ⟨Lc10, hQ10, l10, y10, z10⟩, st10⟩ := Jvm.LawKit.callS X00 hx (y := own_m0) hown (mvT hZ (own_w hw 4 rfl)) (mvT hZ (own_w hw 5 rfl)) (mvT hZ (own_w hw 2 rfl)) (mvT hZ (own_w hw 6 rfl)) (by decide) (backOf (W := 0) (rm_vals l Z a0 hw []  _ _ _ _ _ _ _ _ _ h0 n0 O0 hE  ) hZ (own_w hw 6 rfl) (own_w hw 2 rfl) (by decide) (by decide)) (g := (mkF m 0 #[.val (.ref a_BATCH_path), .unset, .unset, .unset, .unset] [])) rfl (by rw [hml]; rfl) (argsL := []) (rest := []) (lenOf pd____Lcom_example_kwota_kwota_server_CheckPath_ rfl) rfl (by show 2 * 0 + _ ≤ _; exact Nat.le_of_eq rfl) (hb hby d_prog_58_method_6_code_0) (fun _ _ => ⟨rfl, e00, (by decide : 0 + 1 ≤ _), (by decide : 0 + 2 ≤ _)⟩)
  dsimp only [Pt.U, Pt.locs, Pt.cells, Pt.slots] at X10 l10 y10 z10 st10 hQ10
  subst l10 y10 z10
  obtain ⟨b10, k10, rfl, N10q, O10, Kc10, g_b10, gs_b10, F10_0⟩ := hQ10
  have N10 := Fr.app N00 N10q
  have K10 := K00.trans Kc10 (fun x hx => nomatch hx)
  have s_b10 := Nat.le_trans K00.1 gs_b10
  have lt_b10 := F10_0.lt
  obtain ⟨cl11, Ar11, q11, Sz11, Nn11, Hs11, Gf11⟩ := id F10_0
  obtain ⟨cl12, Ar12, q12, Sz12, Nn12, Hs12, Gf12⟩ := id F10_0
  have hin13 : ¬ ((0 : Int32) < 0 ∨ cl12.slots.size ≤ ((0 : Int32)).toNatClampNeg) := inb_of Sz12 ⟨by decide, by decide⟩
  have hat14 : cl12.slots[((0 : Int32)).toNatClampNeg]? = some (.ref a_ONE) := Hs12.at hin13 rfl
  obtain ⟨T15, X15, e15, st15⟩ := getF X10 hx hZ hown (host := "") (Or.inl (own_w hw 23 rfl)) Via.refl rfl (F_ONE_path.ext O10.2) (g := (mkF m 21 #[.val (.ref a_BATCH_path), .val (.ref b10), .val (.int (2 : Int32)), .val (.int (0 : Int32)), .val (.ref a_ONE)] [(.ref a_ONE)])) rfl rfl (hb hby d_prog_58_method_6_code_21)
  obtain ⟨cq16, kq16, q16a, q16b, q16c⟩ := isOf hZ e15 (E_ONE_path.ext O10.2)
  obtain ⟨_, _, ⟨T16, L16, k16, n16⟩, -, X16, ⟨Lc16, hQ16, l16, y16, z16⟩, st16⟩ := X15.virtualBack hx (y := own_m2) (z := own_m2) hown (mvT hZ (own_w hw 58 rfl)) (mvT hZ (own_w hw 35 rfl)) (notFace_of_selects (args := #[]) (mvT hZ (own_w hw 37 rfl))) (mvT hZ (own_w hw 37 rfl)) (mvT hZ (own_w hw 36 rfl)) (by decide) (backOf (W := 0) (rm_eq1 l Z a0 hw [] a_ONE_path a_BATCH_path a_ONE_path_value a_BATCH_path_value kw_ONE_path kw_BATCH_path _ _ _ _ _ _ _ _ _ T10.heap n0 O10 hE (E_ONE_path.ext O10.2) (F_ONE_path_coder.ext O10.2) (F_ONE_path_value.ext O10.2) (Aw_ONE_path.ext O10.2) (E_BATCH_path.ext O10.2) (F_BATCH_path_coder.ext O10.2) (F_BATCH_path_value.ext O10.2) (Aw_BATCH_path.ext O10.2) (fun q => ne_BATCH_path_ONE_path q.symm)) hZ (own_w hw 38 rfl) (own_w hw 27 rfl) (by decide) (by decide)) q16a q16c (g := (mkF m 25 #[.val (.ref a_BATCH_path), .val (.ref b10), .val (.int (2 : Int32)), .val (.int (0 : Int32)), .val (.ref a_ONE)] [(.ref a_BATCH_path), (.ref a_ONE_path)])) rfl (by rw [hml]; rfl) (Steps.refl _) (argsL := [(.ref a_BATCH_path)]) (rest := []) (lenOf pd__Ljava_lang_Object__Z rfl) rfl (by show 2 * 0 + _ ≤ _; exact Nat.le_of_eq rfl) (hb hby d_prog_58_method_6_code_25) (fun _ _ => ⟨rfl, e15, (by decide : 1 + 0 ≤ _), (by decide : 2 + 0 ≤ _)⟩)
  dsimp only [Pt.U, Pt.locs, Pt.cells, Pt.slots] at X16 l16 y16 z16 st16 hQ16
  subst l16 y16 z16
  obtain ⟨rfl, N16q, hp16⟩ := hQ16
  have N16 := Fr.app N10 N16q
  obtain ⟨cl17, Ar17, q17, Sz17, Nn17, Hs17, Gf17⟩ := id F10_0
  have hin18 : ¬ ((1 : Int32) < 0 ∨ cl17.slots.size ≤ ((1 : Int32)).toNatClampNeg) := inb_of Sz17 ⟨by decide, by decide⟩
  have hat19 : cl17.slots[((1 : Int32)).toNatClampNeg]? = some (.ref a_BATCH) := Hs17.at hin18 rfl
  obtain ⟨T20, X20, e20, st20⟩ := getF X16 hx hZ hown (host := "") (Or.inl (own_w hw 23 rfl)) Via.refl hp16 (F_BATCH_path.ext O10.2) (g := (mkF m 21 #[.val (.ref a_BATCH_path), .val (.ref b10), .val (.int (2 : Int32)), .val (.int (1 : Int32)), .val (.ref a_BATCH)] [(.ref a_BATCH)])) rfl rfl (hb hby d_prog_58_method_6_code_21)
  obtain ⟨cq21, kq21, q21a, q21b, q21c⟩ := isOf hZ e20 (E_BATCH_path.ext O10.2)
  obtain ⟨_, _, ⟨T21, L21, k21, n21⟩, -, X21, ⟨Lc21, hQ21, l21, y21, z21⟩, st21⟩ := X20.virtualBack hx (y := own_m2) (z := own_m2) hown (mvT hZ (own_w hw 58 rfl)) (mvT hZ (own_w hw 35 rfl)) (notFace_of_selects (args := #[]) (mvT hZ (own_w hw 37 rfl))) (mvT hZ (own_w hw 37 rfl)) (mvT hZ (own_w hw 36 rfl)) (by decide) (backOf (W := 0) (rm_eqsame l Z a0 hw [] a_BATCH_path _ _ _ _ _ _ _ _ _ T10.heap n0 O10 hE  ) hZ (own_w hw 38 rfl) (own_w hw 27 rfl) (by decide) (by decide)) q21a q21c (g := (mkF m 25 #[.val (.ref a_BATCH_path), .val (.ref b10), .val (.int (2 : Int32)), .val (.int (1 : Int32)), .val (.ref a_BATCH)] [(.ref a_BATCH_path), (.ref a_BATCH_path)])) rfl (by rw [hml]; rfl) (Steps.refl _) (argsL := [(.ref a_BATCH_path)]) (rest := []) (lenOf pd__Ljava_lang_Object__Z rfl) rfl (by show 2 * 0 + _ ≤ _; exact Nat.le_of_eq rfl) (hb hby d_prog_58_method_6_code_25) (fun _ _ => ⟨rfl, e20, (by decide : 1 + 0 ≤ _), (by decide : 2 + 0 ≤ _)⟩)
  dsimp only [Pt.U, Pt.locs, Pt.cells, Pt.slots] at X21 l21 y21 z21 st21 hQ21
  subst l21 y21 z21
  obtain ⟨rfl, N21q, hp21⟩ := hQ21
  have N21 := Fr.app N16 N21q
  have k22 : ∀ t, own_At p e below m T21 33 #[.val (.ref a_BATCH_path), .val (.ref b10), .val (.int (2 : Int32)), .val (.int (1 : Int32)), .val (.ref a_BATCH)] [(.ref a_BATCH)] t → own_En p e below m s₁ #[(.ref a_BATCH_path)] 5 t := by
    intro t k
    refine k00 t ?_
    refine st10 _ ?_
    show own_At p e below m T10 3 #[.val (.ref a_BATCH_path), .unset, .unset, .unset, .unset] [(.ref b10)] t
    refine XS.astoreN X10.here hx rfl (hb hby d_prog_58_method_6_code_3) rfl rfl (l' := #[.val (.ref a_BATCH_path), .val (.ref b10), .unset, .unset, .unset]) rfl ?_
    show own_At p e below m T10 4 #[.val (.ref a_BATCH_path), .val (.ref b10), .unset, .unset, .unset] [] t
    refine XS.aloadN X10.here hx rfl (hb hby d_prog_58_method_6_code_4) rfl rfl ?_
    show own_At p e below m T10 5 #[.val (.ref a_BATCH_path), .val (.ref b10), .unset, .unset, .unset] [(.ref b10)] t
    refine X10.arraylength hx (by exact Ar11.1) (State.isArrayOf_alike hZ.alike Ar11.2.1) (g := (mkF m 5 #[.val (.ref a_BATCH_path), .val (.ref b10), .unset, .unset, .unset] [(.ref b10)])) rfl rfl (hb hby d_prog_58_method_6_code_5) _ ?_
    rw [len_of Sz11 Nn11]
    show own_At p e below m T10 6 #[.val (.ref a_BATCH_path), .val (.ref b10), .unset, .unset, .unset] [(.int (2 : Int32))] t
    refine XS.istoreN X10.here hx rfl (hb hby d_prog_58_method_6_code_6) rfl (l' := #[.val (.ref a_BATCH_path), .val (.ref b10), .val (.int (2 : Int32)), .unset, .unset]) rfl ?_
    show own_At p e below m T10 7 #[.val (.ref a_BATCH_path), .val (.ref b10), .val (.int (2 : Int32)), .unset, .unset] [] t
    refine XS.iconst X10.here hx rfl (hb hby d_prog_58_method_6_code_7) ?_
    show own_At p e below m T10 8 #[.val (.ref a_BATCH_path), .val (.ref b10), .val (.int (2 : Int32)), .unset, .unset] [(.int (0 : Int32))] t
    refine XS.istoreN X10.here hx rfl (hb hby d_prog_58_method_6_code_8) rfl (l' := #[.val (.ref a_BATCH_path), .val (.ref b10), .val (.int (2 : Int32)), .val (.int (0 : Int32)), .unset]) rfl ?_
    show own_At p e below m T10 9 #[.val (.ref a_BATCH_path), .val (.ref b10), .val (.int (2 : Int32)), .val (.int (0 : Int32)), .unset] [] t
    refine XS.iloadN X10.here hx rfl (hb hby d_prog_58_method_6_code_9) rfl ?_
    show own_At p e below m T10 10 #[.val (.ref a_BATCH_path), .val (.ref b10), .val (.int (2 : Int32)), .val (.int (0 : Int32)), .unset] [(.int (0 : Int32))] t
    refine XS.iloadN X10.here hx rfl (hb hby d_prog_58_method_6_code_10) rfl ?_
    show own_At p e below m T10 11 #[.val (.ref a_BATCH_path), .val (.ref b10), .val (.int (2 : Int32)), .val (.int (0 : Int32)), .unset] [(.int (2 : Int32)), (.int (0 : Int32))] t
    refine XS.icmpNo X10.here hx rfl (hb hby d_prog_58_method_6_code_11) rfl (tlt (by decide : (0 : Int32) < (2 : Int32))).2.1 ?_
    show own_At p e below m T10 14 #[.val (.ref a_BATCH_path), .val (.ref b10), .val (.int (2 : Int32)), .val (.int (0 : Int32)), .unset] [] t
    refine XS.aloadN X10.here hx rfl (hb hby d_prog_58_method_6_code_14) rfl rfl ?_
    show own_At p e below m T10 15 #[.val (.ref a_BATCH_path), .val (.ref b10), .val (.int (2 : Int32)), .val (.int (0 : Int32)), .unset] [(.ref b10)] t
    refine XS.iloadN X10.here hx rfl (hb hby d_prog_58_method_6_code_15) rfl ?_
    show own_At p e below m T10 16 #[.val (.ref a_BATCH_path), .val (.ref b10), .val (.int (2 : Int32)), .val (.int (0 : Int32)), .unset] [(.int (0 : Int32)), (.ref b10)] t
    refine X10.aaload hx (j := (0 : Int32)) (v := (.ref a_ONE)) (by exact Ar12.1) (State.isArrayOf_alike hZ.alike Ar12.2.1) rfl Ar12.2.2 hin13 hat14 (g := (mkF m 16 #[.val (.ref a_BATCH_path), .val (.ref b10), .val (.int (2 : Int32)), .val (.int (0 : Int32)), .unset] [(.int (0 : Int32)), (.ref b10)])) rfl rfl (hb hby d_prog_58_method_6_code_16) _ ?_
    show own_At p e below m T10 17 #[.val (.ref a_BATCH_path), .val (.ref b10), .val (.int (2 : Int32)), .val (.int (0 : Int32)), .unset] [(.ref a_ONE)] t
    refine XS.astore X10.here hx rfl (hb hby d_prog_58_method_6_code_17) rfl rfl (l' := #[.val (.ref a_BATCH_path), .val (.ref b10), .val (.int (2 : Int32)), .val (.int (0 : Int32)), .val (.ref a_ONE)]) rfl ?_
    show own_At p e below m T10 19 #[.val (.ref a_BATCH_path), .val (.ref b10), .val (.int (2 : Int32)), .val (.int (0 : Int32)), .val (.ref a_ONE)] [] t
    refine XS.aload X10.here hx rfl (hb hby d_prog_58_method_6_code_19) rfl rfl ?_
    show own_At p e below m T10 21 #[.val (.ref a_BATCH_path), .val (.ref b10), .val (.int (2 : Int32)), .val (.int (0 : Int32)), .val (.ref a_ONE)] [(.ref a_ONE)] t
    refine st15 _ ?_
    show own_At p e below m T15 24 #[.val (.ref a_BATCH_path), .val (.ref b10), .val (.int (2 : Int32)), .val (.int (0 : Int32)), .val (.ref a_ONE)] [(.ref a_ONE_path)] t
    refine XS.aloadN X15.here hx rfl (hb hby d_prog_58_method_6_code_24) rfl rfl ?_
    show own_At p e below m T15 25 #[.val (.ref a_BATCH_path), .val (.ref b10), .val (.int (2 : Int32)), .val (.int (0 : Int32)), .val (.ref a_ONE)] [(.ref a_BATCH_path), (.ref a_ONE_path)] t
    refine st16.trans ?_
    show own_At p e below m T16 28 #[.val (.ref a_BATCH_path), .val (.ref b10), .val (.int (2 : Int32)), .val (.int (0 : Int32)), .val (.ref a_ONE)] [(.int (0 : Int32))] t
    refine XS.ifYes X16.here hx rfl (pc0 := 28) (pc' := 34) rfl (hb hby d_prog_58_method_6_code_28) rfl ((if0 _ _).trans (teq (by decide : (0 : Int32) = (0 : Int32))).1) (by decide) (by decide) ?_
    show own_At p e below m T16 34 #[.val (.ref a_BATCH_path), .val (.ref b10), .val (.int (2 : Int32)), .val (.int (0 : Int32)), .val (.ref a_ONE)] [] t
    refine XS.iinc X16.here hx rfl (hb hby d_prog_58_method_6_code_34) rfl (l' := #[.val (.ref a_BATCH_path), .val (.ref b10), .val (.int (2 : Int32)), .val (.int ((0 : Int32) + (1 : Int32))), .val (.ref a_ONE)]) rfl ?_
    show own_At p e below m T16 37 #[.val (.ref a_BATCH_path), .val (.ref b10), .val (.int (2 : Int32)), .val (.int ((0 : Int32) + (1 : Int32))), .val (.ref a_ONE)] [] t
    rw [show ((0 : Int32) + (1 : Int32)) = (1 : Int32) from by decide]
    show own_At p e below m T16 37 #[.val (.ref a_BATCH_path), .val (.ref b10), .val (.int (2 : Int32)), .val (.int (1 : Int32)), .val (.ref a_ONE)] [] t
    refine XS.goto X16.here hx rfl (pc0 := 37) (pc' := 9) rfl (hb hby d_prog_58_method_6_code_37) (by decide) (by decide) ?_
    show own_At p e below m T16 9 #[.val (.ref a_BATCH_path), .val (.ref b10), .val (.int (2 : Int32)), .val (.int (1 : Int32)), .val (.ref a_ONE)] [] t
    refine XS.iloadN X16.here hx rfl (hb hby d_prog_58_method_6_code_9) rfl ?_
    show own_At p e below m T16 10 #[.val (.ref a_BATCH_path), .val (.ref b10), .val (.int (2 : Int32)), .val (.int (1 : Int32)), .val (.ref a_ONE)] [(.int (1 : Int32))] t
    refine XS.iloadN X16.here hx rfl (hb hby d_prog_58_method_6_code_10) rfl ?_
    show own_At p e below m T16 11 #[.val (.ref a_BATCH_path), .val (.ref b10), .val (.int (2 : Int32)), .val (.int (1 : Int32)), .val (.ref a_ONE)] [(.int (2 : Int32)), (.int (1 : Int32))] t
    refine XS.icmpNo X16.here hx rfl (hb hby d_prog_58_method_6_code_11) rfl (tlt (by decide : (1 : Int32) < (2 : Int32))).2.1 ?_
    show own_At p e below m T16 14 #[.val (.ref a_BATCH_path), .val (.ref b10), .val (.int (2 : Int32)), .val (.int (1 : Int32)), .val (.ref a_ONE)] [] t
    refine XS.aloadN X16.here hx rfl (hb hby d_prog_58_method_6_code_14) rfl rfl ?_
    show own_At p e below m T16 15 #[.val (.ref a_BATCH_path), .val (.ref b10), .val (.int (2 : Int32)), .val (.int (1 : Int32)), .val (.ref a_ONE)] [(.ref b10)] t
    refine XS.iloadN X16.here hx rfl (hb hby d_prog_58_method_6_code_15) rfl ?_
    show own_At p e below m T16 16 #[.val (.ref a_BATCH_path), .val (.ref b10), .val (.int (2 : Int32)), .val (.int (1 : Int32)), .val (.ref a_ONE)] [(.int (1 : Int32)), (.ref b10)] t
    refine X16.aaload hx (j := (1 : Int32)) (v := (.ref a_BATCH)) (by rw [hp16]; exact Ar17.1) (State.isArrayOf_alike hZ.alike Ar17.2.1) rfl Ar17.2.2 hin18 hat19 (g := (mkF m 16 #[.val (.ref a_BATCH_path), .val (.ref b10), .val (.int (2 : Int32)), .val (.int (1 : Int32)), .val (.ref a_ONE)] [(.int (1 : Int32)), (.ref b10)])) rfl rfl (hb hby d_prog_58_method_6_code_16) _ ?_
    show own_At p e below m T16 17 #[.val (.ref a_BATCH_path), .val (.ref b10), .val (.int (2 : Int32)), .val (.int (1 : Int32)), .val (.ref a_ONE)] [(.ref a_BATCH)] t
    refine XS.astore X16.here hx rfl (hb hby d_prog_58_method_6_code_17) rfl rfl (l' := #[.val (.ref a_BATCH_path), .val (.ref b10), .val (.int (2 : Int32)), .val (.int (1 : Int32)), .val (.ref a_BATCH)]) rfl ?_
    show own_At p e below m T16 19 #[.val (.ref a_BATCH_path), .val (.ref b10), .val (.int (2 : Int32)), .val (.int (1 : Int32)), .val (.ref a_BATCH)] [] t
    refine XS.aload X16.here hx rfl (hb hby d_prog_58_method_6_code_19) rfl rfl ?_
    show own_At p e below m T16 21 #[.val (.ref a_BATCH_path), .val (.ref b10), .val (.int (2 : Int32)), .val (.int (1 : Int32)), .val (.ref a_BATCH)] [(.ref a_BATCH)] t
    refine st20 _ ?_
    show own_At p e below m T20 24 #[.val (.ref a_BATCH_path), .val (.ref b10), .val (.int (2 : Int32)), .val (.int (1 : Int32)), .val (.ref a_BATCH)] [(.ref a_BATCH_path)] t
    refine XS.aloadN X20.here hx rfl (hb hby d_prog_58_method_6_code_24) rfl rfl ?_
    show own_At p e below m T20 25 #[.val (.ref a_BATCH_path), .val (.ref b10), .val (.int (2 : Int32)), .val (.int (1 : Int32)), .val (.ref a_BATCH)] [(.ref a_BATCH_path), (.ref a_BATCH_path)] t
    refine st21.trans ?_
    show own_At p e below m T21 28 #[.val (.ref a_BATCH_path), .val (.ref b10), .val (.int (2 : Int32)), .val (.int (1 : Int32)), .val (.ref a_BATCH)] [(.int (1 : Int32))] t
    refine XS.ifNo X21.here hx rfl (hb hby d_prog_58_method_6_code_28) rfl ((if0 _ _).trans (feq (by decide : ¬ ((1 : Int32) = (0 : Int32)))).1) ?_
    show own_At p e below m T21 31 #[.val (.ref a_BATCH_path), .val (.ref b10), .val (.int (2 : Int32)), .val (.int (1 : Int32)), .val (.ref a_BATCH)] [] t
    refine XS.aload X21.here hx rfl (hb hby d_prog_58_method_6_code_31) rfl rfl ?_
    show own_At p e below m T21 33 #[.val (.ref a_BATCH_path), .val (.ref b10), .val (.int (2 : Int32)), .val (.int (1 : Int32)), .val (.ref a_BATCH)] [(.ref a_BATCH)] t
    exact k
  obtain ⟨fs, hr, hrun, hended, hW, hsame⟩ := X21.leave (v := some (.ref a_BATCH)) (fun h => by rw [Bd.returns] at h; cases h)
  refine hNG ⟨_, _, k22 _ ?_, hrun, hended, _, _, rfl, ?_, ⟨_, rfl⟩, hW, hsame.mono (by decide) (by decide)⟩
  · exact retOut X21 hx (t := (.object "com/example/kwota/kwota/server/CheckPath")) Bd.returns rfl (Or.inr (Or.inr (Or.inr (Or.inr ⟨rfl, rfl, rfl⟩)))) (hb hby d_prog_58_method_6_code_33) hr
  · show Q_of_BATCH Z a__VALUES a_ONE a_BATCH a_ONE_path a_BATCH_path a_ONE_path_value a_BATCH_path_value z_COMPACT_STRINGS r_SIOOBE_FORMATTER h0 n0 _ T21.heap _
    rw [hp21]
    exact ⟨rfl, N21, O10, K10⟩
theorem ef_law (m : MethodId) (x0 : Int32)  : entryFrame m #[(.int x0)] maxLocals = mkF m 0 #[.val (.int x0), .unset, .unset, .unset, .unset] [] := by first | (simp [entryFrame, mkF, argsToLocals, Value.category, maxLocals]; done) | rfl
theorem pd____Ljava_lang_String_ : parseMethodDescriptor "()[Ljava/lang/String;" = some ⟨[], some (.array (.object "java/lang/String"))⟩ := by decide +kernel
theorem own_str {Z : State} {a0 : Array Value} (hw : ∀ d ∈ tables_1, d.before a0 Z = true) : ∀ d ∈ Bundle.stringAtoms, d.before a0 Z = true := fun d hd => hw d ((by decide +kernel : ∀ d ∈ Bundle.stringAtoms, d ∈ tables_1) d hd)
theorem ef_leq2 (m : MethodId) (x0 : Addr) (x1 : Addr)  : entryFrame m #[(.ref x0), (.ref x1)] 3 = mkF m 0 #[.val (.ref x0), .val (.ref x1), .unset] [] := by first | (simp [entryFrame, mkF, argsToLocals, Value.category]; done) | rfl
theorem d_jdk_43_method_13_code_7 : decode jdk_43_method_13_code 7 = .ok (.iconst 0, 1) := by decide +kernel
theorem d_jdk_43_method_13_code_8 : decode jdk_43_method_13_code 8 = .ok (.istore_n 2, 1) := by decide +kernel
theorem d_jdk_43_method_13_code_9 : decode jdk_43_method_13_code 9 = .ok (.iload_n 2, 1) := by decide +kernel
theorem d_jdk_43_method_13_code_10 : decode jdk_43_method_13_code 10 = .ok (.aload_n 0, 1) := by decide +kernel
theorem d_jdk_43_method_13_code_11 : decode jdk_43_method_13_code 11 = .ok (.arraylength, 1) := by decide +kernel
theorem d_jdk_43_method_13_code_12 : decode jdk_43_method_13_code 12 = .ok (.if_icmp .ge 20, 3) := by decide +kernel
theorem d_jdk_43_method_13_code_15 : decode jdk_43_method_13_code 15 = .ok (.aload_n 0, 1) := by decide +kernel
theorem d_jdk_43_method_13_code_16 : decode jdk_43_method_13_code 16 = .ok (.iload_n 2, 1) := by decide +kernel
theorem d_jdk_43_method_13_code_17 : decode jdk_43_method_13_code 17 = .ok (.baload, 1) := by decide +kernel
theorem d_jdk_43_method_13_code_18 : decode jdk_43_method_13_code 18 = .ok (.aload_n 1, 1) := by decide +kernel
theorem d_jdk_43_method_13_code_19 : decode jdk_43_method_13_code 19 = .ok (.iload_n 2, 1) := by decide +kernel
theorem d_jdk_43_method_13_code_20 : decode jdk_43_method_13_code 20 = .ok (.baload, 1) := by decide +kernel
theorem d_jdk_43_method_13_code_21 : decode jdk_43_method_13_code 21 = .ok (.if_icmp .eq 5, 3) := by decide +kernel
theorem d_jdk_43_method_13_code_26 : decode jdk_43_method_13_code 26 = .ok (.iinc 2 1, 3) := by decide +kernel
theorem d_jdk_43_method_13_code_29 : decode jdk_43_method_13_code 29 = .ok (.goto (-20), 3) := by decide +kernel
theorem d_jdk_43_method_13_code_32 : decode jdk_43_method_13_code 32 = .ok (.iconst 1, 1) := by decide +kernel
theorem d_jdk_43_method_13_code_33 : decode jdk_43_method_13_code 33 = .ok (.ireturn, 1) := by decide +kernel
def Q_leq2 (Z : State) (t0 : Addr) (t1 : Addr) (k0 : ClassId) (k1 : ClassId) (a__VALUES : Addr) (a_ONE : Addr) (a_BATCH : Addr) (a_ONE_path : Addr) (a_BATCH_path : Addr) (a_ONE_path_value : Addr) (a_BATCH_path_value : Addr) (z_COMPACT_STRINGS : Int32) (r_SIOOBE_FORMATTER : Value) (h0 : Heap) (n0 : Nat) (v : Option Value) (h : Heap) (L : List Loc) : Prop := v = some (.int (1 : Int32)) ∧ Fr n0 L ∧ h = h0
set_option maxRecDepth 65536 in
set_option maxHeartbeats 40000000 in
theorem rm_leq2 (l : Launch) (Z : State) (a0 : Array Value) (hw : ∀ d ∈ tables_1, d.before a0 Z = true) (ws : List Jvm.Cond) (t0 : Addr) (t1 : Addr) (k0 : ClassId) (k1 : ClassId) (a__VALUES : Addr) (a_ONE : Addr) (a_BATCH : Addr) (a_ONE_path : Addr) (a_BATCH_path : Addr) (a_ONE_path_value : Addr) (a_BATCH_path_value : Addr) (z_COMPACT_STRINGS : Int32) (r_SIOOBE_FORMATTER : Value) (h0 : Heap) (n0 : Nat) (O0 : Old Z n0 h0) (hE : EV Z a__VALUES a_ONE a_BATCH a_ONE_path a_BATCH_path a_ONE_path_value a_BATCH_path_value z_COMPACT_STRINGS r_SIOOBE_FORMATTER) (P0 : Arv Z h0 t0 k0 .byte (9 : Int32) [(.int (47 : Int32)), (.int (118 : Int32)), (.int (49 : Int32)), (.int (47 : Int32)), (.int (99 : Int32)), (.int (104 : Int32)), (.int (101 : Int32)), (.int (99 : Int32)), (.int (107 : Int32))] (.int (0 : Int32))) (P1 : Arv Z h0 t1 k1 .byte (9 : Int32) [(.int (47 : Int32)), (.int (118 : Int32)), (.int (49 : Int32)), (.int (47 : Int32)), (.int (99 : Int32)), (.int (104 : Int32)), (.int (101 : Int32)), (.int (99 : Int32)), (.int (107 : Int32))] (.int (0 : Int32))) :
    MetFree l own_m4 (head1 (Jvm.Cond.code own_m4 jdk_43_method_13_code 3 (some .boolean) :: ws) ({ frames := 0, cells := 0, slots := 0, locals := 0 } : Room)) (fun a U => a = #[(.ref t0), (.ref t1)] ∧ Z.Warmed39 U.vm ∧ U.heap = h0) (fun _ _ _ _ _ => True) (fun _ U o U' => ∃ v L, o = .returned v ∧ Q_leq2 Z t0 t1 k0 k1 a__VALUES a_ONE a_BATCH a_ONE_path a_BATCH_path a_ONE_path_value a_BATCH_path_value z_COMPACT_STRINGS r_SIOOBE_FORMATTER h0 n0 v U'.heap L ∧ FrameEnd U o U' L ({ frames := 0, cells := 0, slots := 0, locals := 0 } : Room).cells ({ frames := 0, cells := 0, slots := 0, locals := 0 } : Room).slots) := by
  refine MetFree.of_bodySF (plainFor_of_name pn_java_lang_StringLatin1) hisR ?_
  intro p e s m args below meth c s₁ Bd hml0 hP hK
  obtain ⟨rfl, hZ, hh⟩ := hP
  have hx := Bd.exec
  have hby := Bd.bytes
  have hml : c.maxLocals = 3 := hml0
  have hown : s.vm.findClass "java/lang/StringLatin1" = some m.cls := findClass_of_methodNamed Bd.named
  have hnm := (name_of_methodNamed Bd.named Bd.method).1
  have X00 : Stand p l e ({ frames := 0, cells := 0, slots := 0, locals := 0 } : Room) s m #[(.ref t0), (.ref t1)] below meth c s₁ [] 0 0 := Stand.of_body Bd
  have e00 : s₁.heap = h0 := by rw [← hh, Bd.state]; rfl
  have N00 := Fr.nil n0
  refine Classical.byContradiction fun hNG => ?_
  have K00 := Keep.refl h0 []
  have k00 : ∀ t, own_At p e below m s₁ 0 #[.val (.ref t0), .val (.ref t1), .unset] [] t → own_En p e below m s₁ #[(.ref t0), (.ref t1)] 3 t := fun t k => castTop (ef_leq2 m t0 t1 ) k
  obtain ⟨S__VALUES, E__VALUES, S_ONE, E_ONE, S_BATCH, E_BATCH, F_ONE_path, E_ONE_path, F_BATCH_path, E_BATCH_path, F_ONE_path_coder, F_ONE_path_value, F_BATCH_path_coder, F_BATCH_path_value, ne_BATCH_path_ONE_path, S_COMPACT_STRINGS, nz_COMPACT_STRINGS, S_SIOOBE_FORMATTER, iS_SIOOBE_FORMATTER, C__VALUES, C_ONE_path_value, C_BATCH_path_value⟩ := (id hE : EV Z a__VALUES a_ONE a_BATCH a_ONE_path a_BATCH_path a_ONE_path_value a_BATCH_path_value z_COMPACT_STRINGS r_SIOOBE_FORMATTER)
  obtain ⟨kw_ONE_path, Aw_ONE_path⟩ := C_ONE_path_value.arv
  obtain ⟨kw_BATCH_path, Aw_BATCH_path⟩ := C_BATCH_path_value.arv
  obtain ⟨cl10, Ar10, q10, Sz10, Nn10, Hs10, Gf10⟩ := id P0
  obtain ⟨cl11, Ar11, q11, Sz11, Nn11, Hs11, Gf11⟩ := id P1
  obtain ⟨cl12, Ar12, q12, Sz12, Nn12, Hs12, Gf12⟩ := id P0
  obtain ⟨cl13, Ar13, q13, Sz13, Nn13, Hs13, Gf13⟩ := id P0
  have hin14 : ¬ ((0 : Int32) < 0 ∨ cl13.slots.size ≤ ((0 : Int32)).toNatClampNeg) := inb_of Sz13 ⟨by decide, by decide⟩
  have hat15 : cl13.slots[((0 : Int32)).toNatClampNeg]? = some (.int (47 : Int32)) := Hs13.at hin14 rfl
  obtain ⟨cl16, Ar16, q16, Sz16, Nn16, Hs16, Gf16⟩ := id P1
  have hin17 : ¬ ((0 : Int32) < 0 ∨ cl16.slots.size ≤ ((0 : Int32)).toNatClampNeg) := inb_of Sz16 ⟨by decide, by decide⟩
  have hat18 : cl16.slots[((0 : Int32)).toNatClampNeg]? = some (.int (47 : Int32)) := Hs16.at hin17 rfl
  obtain ⟨cl19, Ar19, q19, Sz19, Nn19, Hs19, Gf19⟩ := id P0
  obtain ⟨cl20, Ar20, q20, Sz20, Nn20, Hs20, Gf20⟩ := id P0
  have hin21 : ¬ ((1 : Int32) < 0 ∨ cl20.slots.size ≤ ((1 : Int32)).toNatClampNeg) := inb_of Sz20 ⟨by decide, by decide⟩
  have hat22 : cl20.slots[((1 : Int32)).toNatClampNeg]? = some (.int (118 : Int32)) := Hs20.at hin21 rfl
  obtain ⟨cl23, Ar23, q23, Sz23, Nn23, Hs23, Gf23⟩ := id P1
  have hin24 : ¬ ((1 : Int32) < 0 ∨ cl23.slots.size ≤ ((1 : Int32)).toNatClampNeg) := inb_of Sz23 ⟨by decide, by decide⟩
  have hat25 : cl23.slots[((1 : Int32)).toNatClampNeg]? = some (.int (118 : Int32)) := Hs23.at hin24 rfl
  obtain ⟨cl26, Ar26, q26, Sz26, Nn26, Hs26, Gf26⟩ := id P0
  obtain ⟨cl27, Ar27, q27, Sz27, Nn27, Hs27, Gf27⟩ := id P0
  have hin28 : ¬ ((2 : Int32) < 0 ∨ cl27.slots.size ≤ ((2 : Int32)).toNatClampNeg) := inb_of Sz27 ⟨by decide, by decide⟩
  have hat29 : cl27.slots[((2 : Int32)).toNatClampNeg]? = some (.int (49 : Int32)) := Hs27.at hin28 rfl
  obtain ⟨cl30, Ar30, q30, Sz30, Nn30, Hs30, Gf30⟩ := id P1
  have hin31 : ¬ ((2 : Int32) < 0 ∨ cl30.slots.size ≤ ((2 : Int32)).toNatClampNeg) := inb_of Sz30 ⟨by decide, by decide⟩
  have hat32 : cl30.slots[((2 : Int32)).toNatClampNeg]? = some (.int (49 : Int32)) := Hs30.at hin31 rfl
  obtain ⟨cl33, Ar33, q33, Sz33, Nn33, Hs33, Gf33⟩ := id P0
  obtain ⟨cl34, Ar34, q34, Sz34, Nn34, Hs34, Gf34⟩ := id P0
  have hin35 : ¬ ((3 : Int32) < 0 ∨ cl34.slots.size ≤ ((3 : Int32)).toNatClampNeg) := inb_of Sz34 ⟨by decide, by decide⟩
  have hat36 : cl34.slots[((3 : Int32)).toNatClampNeg]? = some (.int (47 : Int32)) := Hs34.at hin35 rfl
  obtain ⟨cl37, Ar37, q37, Sz37, Nn37, Hs37, Gf37⟩ := id P1
  have hin38 : ¬ ((3 : Int32) < 0 ∨ cl37.slots.size ≤ ((3 : Int32)).toNatClampNeg) := inb_of Sz37 ⟨by decide, by decide⟩
  have hat39 : cl37.slots[((3 : Int32)).toNatClampNeg]? = some (.int (47 : Int32)) := Hs37.at hin38 rfl
  obtain ⟨cl40, Ar40, q40, Sz40, Nn40, Hs40, Gf40⟩ := id P0
  obtain ⟨cl41, Ar41, q41, Sz41, Nn41, Hs41, Gf41⟩ := id P0
  have hin42 : ¬ ((4 : Int32) < 0 ∨ cl41.slots.size ≤ ((4 : Int32)).toNatClampNeg) := inb_of Sz41 ⟨by decide, by decide⟩
  have hat43 : cl41.slots[((4 : Int32)).toNatClampNeg]? = some (.int (99 : Int32)) := Hs41.at hin42 rfl
  obtain ⟨cl44, Ar44, q44, Sz44, Nn44, Hs44, Gf44⟩ := id P1
  have hin45 : ¬ ((4 : Int32) < 0 ∨ cl44.slots.size ≤ ((4 : Int32)).toNatClampNeg) := inb_of Sz44 ⟨by decide, by decide⟩
  have hat46 : cl44.slots[((4 : Int32)).toNatClampNeg]? = some (.int (99 : Int32)) := Hs44.at hin45 rfl
  obtain ⟨cl47, Ar47, q47, Sz47, Nn47, Hs47, Gf47⟩ := id P0
  obtain ⟨cl48, Ar48, q48, Sz48, Nn48, Hs48, Gf48⟩ := id P0
  have hin49 : ¬ ((5 : Int32) < 0 ∨ cl48.slots.size ≤ ((5 : Int32)).toNatClampNeg) := inb_of Sz48 ⟨by decide, by decide⟩
  have hat50 : cl48.slots[((5 : Int32)).toNatClampNeg]? = some (.int (104 : Int32)) := Hs48.at hin49 rfl
  obtain ⟨cl51, Ar51, q51, Sz51, Nn51, Hs51, Gf51⟩ := id P1
  have hin52 : ¬ ((5 : Int32) < 0 ∨ cl51.slots.size ≤ ((5 : Int32)).toNatClampNeg) := inb_of Sz51 ⟨by decide, by decide⟩
  have hat53 : cl51.slots[((5 : Int32)).toNatClampNeg]? = some (.int (104 : Int32)) := Hs51.at hin52 rfl
  obtain ⟨cl54, Ar54, q54, Sz54, Nn54, Hs54, Gf54⟩ := id P0
  obtain ⟨cl55, Ar55, q55, Sz55, Nn55, Hs55, Gf55⟩ := id P0
  have hin56 : ¬ ((6 : Int32) < 0 ∨ cl55.slots.size ≤ ((6 : Int32)).toNatClampNeg) := inb_of Sz55 ⟨by decide, by decide⟩
  have hat57 : cl55.slots[((6 : Int32)).toNatClampNeg]? = some (.int (101 : Int32)) := Hs55.at hin56 rfl
  obtain ⟨cl58, Ar58, q58, Sz58, Nn58, Hs58, Gf58⟩ := id P1
  have hin59 : ¬ ((6 : Int32) < 0 ∨ cl58.slots.size ≤ ((6 : Int32)).toNatClampNeg) := inb_of Sz58 ⟨by decide, by decide⟩
  have hat60 : cl58.slots[((6 : Int32)).toNatClampNeg]? = some (.int (101 : Int32)) := Hs58.at hin59 rfl
  obtain ⟨cl61, Ar61, q61, Sz61, Nn61, Hs61, Gf61⟩ := id P0
  obtain ⟨cl62, Ar62, q62, Sz62, Nn62, Hs62, Gf62⟩ := id P0
  have hin63 : ¬ ((7 : Int32) < 0 ∨ cl62.slots.size ≤ ((7 : Int32)).toNatClampNeg) := inb_of Sz62 ⟨by decide, by decide⟩
  have hat64 : cl62.slots[((7 : Int32)).toNatClampNeg]? = some (.int (99 : Int32)) := Hs62.at hin63 rfl
  obtain ⟨cl65, Ar65, q65, Sz65, Nn65, Hs65, Gf65⟩ := id P1
  have hin66 : ¬ ((7 : Int32) < 0 ∨ cl65.slots.size ≤ ((7 : Int32)).toNatClampNeg) := inb_of Sz65 ⟨by decide, by decide⟩
  have hat67 : cl65.slots[((7 : Int32)).toNatClampNeg]? = some (.int (99 : Int32)) := Hs65.at hin66 rfl
  obtain ⟨cl68, Ar68, q68, Sz68, Nn68, Hs68, Gf68⟩ := id P0
  obtain ⟨cl69, Ar69, q69, Sz69, Nn69, Hs69, Gf69⟩ := id P0
  have hin70 : ¬ ((8 : Int32) < 0 ∨ cl69.slots.size ≤ ((8 : Int32)).toNatClampNeg) := inb_of Sz69 ⟨by decide, by decide⟩
  have hat71 : cl69.slots[((8 : Int32)).toNatClampNeg]? = some (.int (107 : Int32)) := Hs69.at hin70 rfl
  obtain ⟨cl72, Ar72, q72, Sz72, Nn72, Hs72, Gf72⟩ := id P1
  have hin73 : ¬ ((8 : Int32) < 0 ∨ cl72.slots.size ≤ ((8 : Int32)).toNatClampNeg) := inb_of Sz72 ⟨by decide, by decide⟩
  have hat74 : cl72.slots[((8 : Int32)).toNatClampNeg]? = some (.int (107 : Int32)) := Hs72.at hin73 rfl
  obtain ⟨cl75, Ar75, q75, Sz75, Nn75, Hs75, Gf75⟩ := id P0
  have k76 : ∀ t, own_At p e below m s₁ 33 #[.val (.ref t0), .val (.ref t1), .val (.int (9 : Int32))] [(.int (1 : Int32))] t → own_En p e below m s₁ #[(.ref t0), (.ref t1)] 3 t := by
    intro t k
    refine k00 t ?_
    refine XS.aloadN X00.here hx rfl (hb hby d_jdk_43_method_13_code_0) rfl rfl ?_
    show own_At p e below m s₁ 1 #[.val (.ref t0), .val (.ref t1), .unset] [(.ref t0)] t
    refine X00.arraylength hx (by rw [e00]; exact Ar10.1) (State.isArrayOf_alike hZ.alike Ar10.2.1) (g := (mkF m 1 #[.val (.ref t0), .val (.ref t1), .unset] [(.ref t0)])) rfl rfl (hb hby d_jdk_43_method_13_code_1) _ ?_
    rw [len_of Sz10 Nn10]
    show own_At p e below m s₁ 2 #[.val (.ref t0), .val (.ref t1), .unset] [(.int (9 : Int32))] t
    refine XS.aloadN X00.here hx rfl (hb hby d_jdk_43_method_13_code_2) rfl rfl ?_
    show own_At p e below m s₁ 3 #[.val (.ref t0), .val (.ref t1), .unset] [(.ref t1), (.int (9 : Int32))] t
    refine X00.arraylength hx (by rw [e00]; exact Ar11.1) (State.isArrayOf_alike hZ.alike Ar11.2.1) (g := (mkF m 3 #[.val (.ref t0), .val (.ref t1), .unset] [(.ref t1), (.int (9 : Int32))])) rfl rfl (hb hby d_jdk_43_method_13_code_3) _ ?_
    rw [len_of Sz11 Nn11]
    show own_At p e below m s₁ 4 #[.val (.ref t0), .val (.ref t1), .unset] [(.int (9 : Int32)), (.int (9 : Int32))] t
    refine XS.icmpNo X00.here hx rfl (hb hby d_jdk_43_method_13_code_4) rfl (teq (by decide : (9 : Int32) = (9 : Int32))).2 ?_
    show own_At p e below m s₁ 7 #[.val (.ref t0), .val (.ref t1), .unset] [] t
    refine XS.iconst X00.here hx rfl (hb hby d_jdk_43_method_13_code_7) ?_
    show own_At p e below m s₁ 8 #[.val (.ref t0), .val (.ref t1), .unset] [(.int (0 : Int32))] t
    refine XS.istoreN X00.here hx rfl (hb hby d_jdk_43_method_13_code_8) rfl (l' := #[.val (.ref t0), .val (.ref t1), .val (.int (0 : Int32))]) rfl ?_
    show own_At p e below m s₁ 9 #[.val (.ref t0), .val (.ref t1), .val (.int (0 : Int32))] [] t
    refine XS.iloadN X00.here hx rfl (hb hby d_jdk_43_method_13_code_9) rfl ?_
    show own_At p e below m s₁ 10 #[.val (.ref t0), .val (.ref t1), .val (.int (0 : Int32))] [(.int (0 : Int32))] t
    refine XS.aloadN X00.here hx rfl (hb hby d_jdk_43_method_13_code_10) rfl rfl ?_
    show own_At p e below m s₁ 11 #[.val (.ref t0), .val (.ref t1), .val (.int (0 : Int32))] [(.ref t0), (.int (0 : Int32))] t
    refine X00.arraylength hx (by rw [e00]; exact Ar12.1) (State.isArrayOf_alike hZ.alike Ar12.2.1) (g := (mkF m 11 #[.val (.ref t0), .val (.ref t1), .val (.int (0 : Int32))] [(.ref t0), (.int (0 : Int32))])) rfl rfl (hb hby d_jdk_43_method_13_code_11) _ ?_
    rw [len_of Sz12 Nn12]
    show own_At p e below m s₁ 12 #[.val (.ref t0), .val (.ref t1), .val (.int (0 : Int32))] [(.int (9 : Int32)), (.int (0 : Int32))] t
    refine XS.icmpNo X00.here hx rfl (hb hby d_jdk_43_method_13_code_12) rfl (tlt (by decide : (0 : Int32) < (9 : Int32))).2.1 ?_
    show own_At p e below m s₁ 15 #[.val (.ref t0), .val (.ref t1), .val (.int (0 : Int32))] [] t
    refine XS.aloadN X00.here hx rfl (hb hby d_jdk_43_method_13_code_15) rfl rfl ?_
    show own_At p e below m s₁ 16 #[.val (.ref t0), .val (.ref t1), .val (.int (0 : Int32))] [(.ref t0)] t
    refine XS.iloadN X00.here hx rfl (hb hby d_jdk_43_method_13_code_16) rfl ?_
    show own_At p e below m s₁ 17 #[.val (.ref t0), .val (.ref t1), .val (.int (0 : Int32))] [(.int (0 : Int32)), (.ref t0)] t
    refine X00.baloadBytes hx (j := (0 : Int32)) (v := (.int (47 : Int32))) (by rw [e00]; exact Ar13.1) (State.isArrayOf_alike hZ.alike Ar13.2.1) Ar13.2.2 hin14 hat15 (g := (mkF m 17 #[.val (.ref t0), .val (.ref t1), .val (.int (0 : Int32))] [(.int (0 : Int32)), (.ref t0)])) rfl rfl (hb hby d_jdk_43_method_13_code_17) _ ?_
    show own_At p e below m s₁ 18 #[.val (.ref t0), .val (.ref t1), .val (.int (0 : Int32))] [(.int (47 : Int32))] t
    refine XS.aloadN X00.here hx rfl (hb hby d_jdk_43_method_13_code_18) rfl rfl ?_
    show own_At p e below m s₁ 19 #[.val (.ref t0), .val (.ref t1), .val (.int (0 : Int32))] [(.ref t1), (.int (47 : Int32))] t
    refine XS.iloadN X00.here hx rfl (hb hby d_jdk_43_method_13_code_19) rfl ?_
    show own_At p e below m s₁ 20 #[.val (.ref t0), .val (.ref t1), .val (.int (0 : Int32))] [(.int (0 : Int32)), (.ref t1), (.int (47 : Int32))] t
    refine X00.baloadBytes hx (j := (0 : Int32)) (v := (.int (47 : Int32))) (by rw [e00]; exact Ar16.1) (State.isArrayOf_alike hZ.alike Ar16.2.1) Ar16.2.2 hin17 hat18 (g := (mkF m 20 #[.val (.ref t0), .val (.ref t1), .val (.int (0 : Int32))] [(.int (0 : Int32)), (.ref t1), (.int (47 : Int32))])) rfl rfl (hb hby d_jdk_43_method_13_code_20) _ ?_
    show own_At p e below m s₁ 21 #[.val (.ref t0), .val (.ref t1), .val (.int (0 : Int32))] [(.int (47 : Int32)), (.int (47 : Int32))] t
    refine XS.icmpYes X00.here hx rfl (pc0 := 21) (pc' := 26) rfl (hb hby d_jdk_43_method_13_code_21) rfl (teq (by decide : (47 : Int32) = (47 : Int32))).1 (by decide) (by decide) ?_
    show own_At p e below m s₁ 26 #[.val (.ref t0), .val (.ref t1), .val (.int (0 : Int32))] [] t
    refine XS.iinc X00.here hx rfl (hb hby d_jdk_43_method_13_code_26) rfl (l' := #[.val (.ref t0), .val (.ref t1), .val (.int ((0 : Int32) + (1 : Int32)))]) rfl ?_
    show own_At p e below m s₁ 29 #[.val (.ref t0), .val (.ref t1), .val (.int ((0 : Int32) + (1 : Int32)))] [] t
    rw [show ((0 : Int32) + (1 : Int32)) = (1 : Int32) from by decide]
    show own_At p e below m s₁ 29 #[.val (.ref t0), .val (.ref t1), .val (.int (1 : Int32))] [] t
    refine XS.goto X00.here hx rfl (pc0 := 29) (pc' := 9) rfl (hb hby d_jdk_43_method_13_code_29) (by decide) (by decide) ?_
    show own_At p e below m s₁ 9 #[.val (.ref t0), .val (.ref t1), .val (.int (1 : Int32))] [] t
    refine XS.iloadN X00.here hx rfl (hb hby d_jdk_43_method_13_code_9) rfl ?_
    show own_At p e below m s₁ 10 #[.val (.ref t0), .val (.ref t1), .val (.int (1 : Int32))] [(.int (1 : Int32))] t
    refine XS.aloadN X00.here hx rfl (hb hby d_jdk_43_method_13_code_10) rfl rfl ?_
    show own_At p e below m s₁ 11 #[.val (.ref t0), .val (.ref t1), .val (.int (1 : Int32))] [(.ref t0), (.int (1 : Int32))] t
    refine X00.arraylength hx (by rw [e00]; exact Ar19.1) (State.isArrayOf_alike hZ.alike Ar19.2.1) (g := (mkF m 11 #[.val (.ref t0), .val (.ref t1), .val (.int (1 : Int32))] [(.ref t0), (.int (1 : Int32))])) rfl rfl (hb hby d_jdk_43_method_13_code_11) _ ?_
    rw [len_of Sz19 Nn19]
    show own_At p e below m s₁ 12 #[.val (.ref t0), .val (.ref t1), .val (.int (1 : Int32))] [(.int (9 : Int32)), (.int (1 : Int32))] t
    refine XS.icmpNo X00.here hx rfl (hb hby d_jdk_43_method_13_code_12) rfl (tlt (by decide : (1 : Int32) < (9 : Int32))).2.1 ?_
    show own_At p e below m s₁ 15 #[.val (.ref t0), .val (.ref t1), .val (.int (1 : Int32))] [] t
    refine XS.aloadN X00.here hx rfl (hb hby d_jdk_43_method_13_code_15) rfl rfl ?_
    show own_At p e below m s₁ 16 #[.val (.ref t0), .val (.ref t1), .val (.int (1 : Int32))] [(.ref t0)] t
    refine XS.iloadN X00.here hx rfl (hb hby d_jdk_43_method_13_code_16) rfl ?_
    show own_At p e below m s₁ 17 #[.val (.ref t0), .val (.ref t1), .val (.int (1 : Int32))] [(.int (1 : Int32)), (.ref t0)] t
    refine X00.baloadBytes hx (j := (1 : Int32)) (v := (.int (118 : Int32))) (by rw [e00]; exact Ar20.1) (State.isArrayOf_alike hZ.alike Ar20.2.1) Ar20.2.2 hin21 hat22 (g := (mkF m 17 #[.val (.ref t0), .val (.ref t1), .val (.int (1 : Int32))] [(.int (1 : Int32)), (.ref t0)])) rfl rfl (hb hby d_jdk_43_method_13_code_17) _ ?_
    show own_At p e below m s₁ 18 #[.val (.ref t0), .val (.ref t1), .val (.int (1 : Int32))] [(.int (118 : Int32))] t
    refine XS.aloadN X00.here hx rfl (hb hby d_jdk_43_method_13_code_18) rfl rfl ?_
    show own_At p e below m s₁ 19 #[.val (.ref t0), .val (.ref t1), .val (.int (1 : Int32))] [(.ref t1), (.int (118 : Int32))] t
    refine XS.iloadN X00.here hx rfl (hb hby d_jdk_43_method_13_code_19) rfl ?_
    show own_At p e below m s₁ 20 #[.val (.ref t0), .val (.ref t1), .val (.int (1 : Int32))] [(.int (1 : Int32)), (.ref t1), (.int (118 : Int32))] t
    refine X00.baloadBytes hx (j := (1 : Int32)) (v := (.int (118 : Int32))) (by rw [e00]; exact Ar23.1) (State.isArrayOf_alike hZ.alike Ar23.2.1) Ar23.2.2 hin24 hat25 (g := (mkF m 20 #[.val (.ref t0), .val (.ref t1), .val (.int (1 : Int32))] [(.int (1 : Int32)), (.ref t1), (.int (118 : Int32))])) rfl rfl (hb hby d_jdk_43_method_13_code_20) _ ?_
    show own_At p e below m s₁ 21 #[.val (.ref t0), .val (.ref t1), .val (.int (1 : Int32))] [(.int (118 : Int32)), (.int (118 : Int32))] t
    refine XS.icmpYes X00.here hx rfl (pc0 := 21) (pc' := 26) rfl (hb hby d_jdk_43_method_13_code_21) rfl (teq (by decide : (118 : Int32) = (118 : Int32))).1 (by decide) (by decide) ?_
    show own_At p e below m s₁ 26 #[.val (.ref t0), .val (.ref t1), .val (.int (1 : Int32))] [] t
    refine XS.iinc X00.here hx rfl (hb hby d_jdk_43_method_13_code_26) rfl (l' := #[.val (.ref t0), .val (.ref t1), .val (.int ((1 : Int32) + (1 : Int32)))]) rfl ?_
    show own_At p e below m s₁ 29 #[.val (.ref t0), .val (.ref t1), .val (.int ((1 : Int32) + (1 : Int32)))] [] t
    rw [show ((1 : Int32) + (1 : Int32)) = (2 : Int32) from by decide]
    show own_At p e below m s₁ 29 #[.val (.ref t0), .val (.ref t1), .val (.int (2 : Int32))] [] t
    refine XS.goto X00.here hx rfl (pc0 := 29) (pc' := 9) rfl (hb hby d_jdk_43_method_13_code_29) (by decide) (by decide) ?_
    show own_At p e below m s₁ 9 #[.val (.ref t0), .val (.ref t1), .val (.int (2 : Int32))] [] t
    refine XS.iloadN X00.here hx rfl (hb hby d_jdk_43_method_13_code_9) rfl ?_
    show own_At p e below m s₁ 10 #[.val (.ref t0), .val (.ref t1), .val (.int (2 : Int32))] [(.int (2 : Int32))] t
    refine XS.aloadN X00.here hx rfl (hb hby d_jdk_43_method_13_code_10) rfl rfl ?_
    show own_At p e below m s₁ 11 #[.val (.ref t0), .val (.ref t1), .val (.int (2 : Int32))] [(.ref t0), (.int (2 : Int32))] t
    refine X00.arraylength hx (by rw [e00]; exact Ar26.1) (State.isArrayOf_alike hZ.alike Ar26.2.1) (g := (mkF m 11 #[.val (.ref t0), .val (.ref t1), .val (.int (2 : Int32))] [(.ref t0), (.int (2 : Int32))])) rfl rfl (hb hby d_jdk_43_method_13_code_11) _ ?_
    rw [len_of Sz26 Nn26]
    show own_At p e below m s₁ 12 #[.val (.ref t0), .val (.ref t1), .val (.int (2 : Int32))] [(.int (9 : Int32)), (.int (2 : Int32))] t
    refine XS.icmpNo X00.here hx rfl (hb hby d_jdk_43_method_13_code_12) rfl (tlt (by decide : (2 : Int32) < (9 : Int32))).2.1 ?_
    show own_At p e below m s₁ 15 #[.val (.ref t0), .val (.ref t1), .val (.int (2 : Int32))] [] t
    refine XS.aloadN X00.here hx rfl (hb hby d_jdk_43_method_13_code_15) rfl rfl ?_
    show own_At p e below m s₁ 16 #[.val (.ref t0), .val (.ref t1), .val (.int (2 : Int32))] [(.ref t0)] t
    refine XS.iloadN X00.here hx rfl (hb hby d_jdk_43_method_13_code_16) rfl ?_
    show own_At p e below m s₁ 17 #[.val (.ref t0), .val (.ref t1), .val (.int (2 : Int32))] [(.int (2 : Int32)), (.ref t0)] t
    refine X00.baloadBytes hx (j := (2 : Int32)) (v := (.int (49 : Int32))) (by rw [e00]; exact Ar27.1) (State.isArrayOf_alike hZ.alike Ar27.2.1) Ar27.2.2 hin28 hat29 (g := (mkF m 17 #[.val (.ref t0), .val (.ref t1), .val (.int (2 : Int32))] [(.int (2 : Int32)), (.ref t0)])) rfl rfl (hb hby d_jdk_43_method_13_code_17) _ ?_
    show own_At p e below m s₁ 18 #[.val (.ref t0), .val (.ref t1), .val (.int (2 : Int32))] [(.int (49 : Int32))] t
    refine XS.aloadN X00.here hx rfl (hb hby d_jdk_43_method_13_code_18) rfl rfl ?_
    show own_At p e below m s₁ 19 #[.val (.ref t0), .val (.ref t1), .val (.int (2 : Int32))] [(.ref t1), (.int (49 : Int32))] t
    refine XS.iloadN X00.here hx rfl (hb hby d_jdk_43_method_13_code_19) rfl ?_
    show own_At p e below m s₁ 20 #[.val (.ref t0), .val (.ref t1), .val (.int (2 : Int32))] [(.int (2 : Int32)), (.ref t1), (.int (49 : Int32))] t
    refine X00.baloadBytes hx (j := (2 : Int32)) (v := (.int (49 : Int32))) (by rw [e00]; exact Ar30.1) (State.isArrayOf_alike hZ.alike Ar30.2.1) Ar30.2.2 hin31 hat32 (g := (mkF m 20 #[.val (.ref t0), .val (.ref t1), .val (.int (2 : Int32))] [(.int (2 : Int32)), (.ref t1), (.int (49 : Int32))])) rfl rfl (hb hby d_jdk_43_method_13_code_20) _ ?_
    show own_At p e below m s₁ 21 #[.val (.ref t0), .val (.ref t1), .val (.int (2 : Int32))] [(.int (49 : Int32)), (.int (49 : Int32))] t
    refine XS.icmpYes X00.here hx rfl (pc0 := 21) (pc' := 26) rfl (hb hby d_jdk_43_method_13_code_21) rfl (teq (by decide : (49 : Int32) = (49 : Int32))).1 (by decide) (by decide) ?_
    show own_At p e below m s₁ 26 #[.val (.ref t0), .val (.ref t1), .val (.int (2 : Int32))] [] t
    refine XS.iinc X00.here hx rfl (hb hby d_jdk_43_method_13_code_26) rfl (l' := #[.val (.ref t0), .val (.ref t1), .val (.int ((2 : Int32) + (1 : Int32)))]) rfl ?_
    show own_At p e below m s₁ 29 #[.val (.ref t0), .val (.ref t1), .val (.int ((2 : Int32) + (1 : Int32)))] [] t
    rw [show ((2 : Int32) + (1 : Int32)) = (3 : Int32) from by decide]
    show own_At p e below m s₁ 29 #[.val (.ref t0), .val (.ref t1), .val (.int (3 : Int32))] [] t
    refine XS.goto X00.here hx rfl (pc0 := 29) (pc' := 9) rfl (hb hby d_jdk_43_method_13_code_29) (by decide) (by decide) ?_
    show own_At p e below m s₁ 9 #[.val (.ref t0), .val (.ref t1), .val (.int (3 : Int32))] [] t
    refine XS.iloadN X00.here hx rfl (hb hby d_jdk_43_method_13_code_9) rfl ?_
    show own_At p e below m s₁ 10 #[.val (.ref t0), .val (.ref t1), .val (.int (3 : Int32))] [(.int (3 : Int32))] t
    refine XS.aloadN X00.here hx rfl (hb hby d_jdk_43_method_13_code_10) rfl rfl ?_
    show own_At p e below m s₁ 11 #[.val (.ref t0), .val (.ref t1), .val (.int (3 : Int32))] [(.ref t0), (.int (3 : Int32))] t
    refine X00.arraylength hx (by rw [e00]; exact Ar33.1) (State.isArrayOf_alike hZ.alike Ar33.2.1) (g := (mkF m 11 #[.val (.ref t0), .val (.ref t1), .val (.int (3 : Int32))] [(.ref t0), (.int (3 : Int32))])) rfl rfl (hb hby d_jdk_43_method_13_code_11) _ ?_
    rw [len_of Sz33 Nn33]
    show own_At p e below m s₁ 12 #[.val (.ref t0), .val (.ref t1), .val (.int (3 : Int32))] [(.int (9 : Int32)), (.int (3 : Int32))] t
    refine XS.icmpNo X00.here hx rfl (hb hby d_jdk_43_method_13_code_12) rfl (tlt (by decide : (3 : Int32) < (9 : Int32))).2.1 ?_
    show own_At p e below m s₁ 15 #[.val (.ref t0), .val (.ref t1), .val (.int (3 : Int32))] [] t
    refine XS.aloadN X00.here hx rfl (hb hby d_jdk_43_method_13_code_15) rfl rfl ?_
    show own_At p e below m s₁ 16 #[.val (.ref t0), .val (.ref t1), .val (.int (3 : Int32))] [(.ref t0)] t
    refine XS.iloadN X00.here hx rfl (hb hby d_jdk_43_method_13_code_16) rfl ?_
    show own_At p e below m s₁ 17 #[.val (.ref t0), .val (.ref t1), .val (.int (3 : Int32))] [(.int (3 : Int32)), (.ref t0)] t
    refine X00.baloadBytes hx (j := (3 : Int32)) (v := (.int (47 : Int32))) (by rw [e00]; exact Ar34.1) (State.isArrayOf_alike hZ.alike Ar34.2.1) Ar34.2.2 hin35 hat36 (g := (mkF m 17 #[.val (.ref t0), .val (.ref t1), .val (.int (3 : Int32))] [(.int (3 : Int32)), (.ref t0)])) rfl rfl (hb hby d_jdk_43_method_13_code_17) _ ?_
    show own_At p e below m s₁ 18 #[.val (.ref t0), .val (.ref t1), .val (.int (3 : Int32))] [(.int (47 : Int32))] t
    refine XS.aloadN X00.here hx rfl (hb hby d_jdk_43_method_13_code_18) rfl rfl ?_
    show own_At p e below m s₁ 19 #[.val (.ref t0), .val (.ref t1), .val (.int (3 : Int32))] [(.ref t1), (.int (47 : Int32))] t
    refine XS.iloadN X00.here hx rfl (hb hby d_jdk_43_method_13_code_19) rfl ?_
    show own_At p e below m s₁ 20 #[.val (.ref t0), .val (.ref t1), .val (.int (3 : Int32))] [(.int (3 : Int32)), (.ref t1), (.int (47 : Int32))] t
    refine X00.baloadBytes hx (j := (3 : Int32)) (v := (.int (47 : Int32))) (by rw [e00]; exact Ar37.1) (State.isArrayOf_alike hZ.alike Ar37.2.1) Ar37.2.2 hin38 hat39 (g := (mkF m 20 #[.val (.ref t0), .val (.ref t1), .val (.int (3 : Int32))] [(.int (3 : Int32)), (.ref t1), (.int (47 : Int32))])) rfl rfl (hb hby d_jdk_43_method_13_code_20) _ ?_
    show own_At p e below m s₁ 21 #[.val (.ref t0), .val (.ref t1), .val (.int (3 : Int32))] [(.int (47 : Int32)), (.int (47 : Int32))] t
    refine XS.icmpYes X00.here hx rfl (pc0 := 21) (pc' := 26) rfl (hb hby d_jdk_43_method_13_code_21) rfl (teq (by decide : (47 : Int32) = (47 : Int32))).1 (by decide) (by decide) ?_
    show own_At p e below m s₁ 26 #[.val (.ref t0), .val (.ref t1), .val (.int (3 : Int32))] [] t
    refine XS.iinc X00.here hx rfl (hb hby d_jdk_43_method_13_code_26) rfl (l' := #[.val (.ref t0), .val (.ref t1), .val (.int ((3 : Int32) + (1 : Int32)))]) rfl ?_
    show own_At p e below m s₁ 29 #[.val (.ref t0), .val (.ref t1), .val (.int ((3 : Int32) + (1 : Int32)))] [] t
    rw [show ((3 : Int32) + (1 : Int32)) = (4 : Int32) from by decide]
    show own_At p e below m s₁ 29 #[.val (.ref t0), .val (.ref t1), .val (.int (4 : Int32))] [] t
    refine XS.goto X00.here hx rfl (pc0 := 29) (pc' := 9) rfl (hb hby d_jdk_43_method_13_code_29) (by decide) (by decide) ?_
    show own_At p e below m s₁ 9 #[.val (.ref t0), .val (.ref t1), .val (.int (4 : Int32))] [] t
    refine XS.iloadN X00.here hx rfl (hb hby d_jdk_43_method_13_code_9) rfl ?_
    show own_At p e below m s₁ 10 #[.val (.ref t0), .val (.ref t1), .val (.int (4 : Int32))] [(.int (4 : Int32))] t
    refine XS.aloadN X00.here hx rfl (hb hby d_jdk_43_method_13_code_10) rfl rfl ?_
    show own_At p e below m s₁ 11 #[.val (.ref t0), .val (.ref t1), .val (.int (4 : Int32))] [(.ref t0), (.int (4 : Int32))] t
    refine X00.arraylength hx (by rw [e00]; exact Ar40.1) (State.isArrayOf_alike hZ.alike Ar40.2.1) (g := (mkF m 11 #[.val (.ref t0), .val (.ref t1), .val (.int (4 : Int32))] [(.ref t0), (.int (4 : Int32))])) rfl rfl (hb hby d_jdk_43_method_13_code_11) _ ?_
    rw [len_of Sz40 Nn40]
    show own_At p e below m s₁ 12 #[.val (.ref t0), .val (.ref t1), .val (.int (4 : Int32))] [(.int (9 : Int32)), (.int (4 : Int32))] t
    refine XS.icmpNo X00.here hx rfl (hb hby d_jdk_43_method_13_code_12) rfl (tlt (by decide : (4 : Int32) < (9 : Int32))).2.1 ?_
    show own_At p e below m s₁ 15 #[.val (.ref t0), .val (.ref t1), .val (.int (4 : Int32))] [] t
    refine XS.aloadN X00.here hx rfl (hb hby d_jdk_43_method_13_code_15) rfl rfl ?_
    show own_At p e below m s₁ 16 #[.val (.ref t0), .val (.ref t1), .val (.int (4 : Int32))] [(.ref t0)] t
    refine XS.iloadN X00.here hx rfl (hb hby d_jdk_43_method_13_code_16) rfl ?_
    show own_At p e below m s₁ 17 #[.val (.ref t0), .val (.ref t1), .val (.int (4 : Int32))] [(.int (4 : Int32)), (.ref t0)] t
    refine X00.baloadBytes hx (j := (4 : Int32)) (v := (.int (99 : Int32))) (by rw [e00]; exact Ar41.1) (State.isArrayOf_alike hZ.alike Ar41.2.1) Ar41.2.2 hin42 hat43 (g := (mkF m 17 #[.val (.ref t0), .val (.ref t1), .val (.int (4 : Int32))] [(.int (4 : Int32)), (.ref t0)])) rfl rfl (hb hby d_jdk_43_method_13_code_17) _ ?_
    show own_At p e below m s₁ 18 #[.val (.ref t0), .val (.ref t1), .val (.int (4 : Int32))] [(.int (99 : Int32))] t
    refine XS.aloadN X00.here hx rfl (hb hby d_jdk_43_method_13_code_18) rfl rfl ?_
    show own_At p e below m s₁ 19 #[.val (.ref t0), .val (.ref t1), .val (.int (4 : Int32))] [(.ref t1), (.int (99 : Int32))] t
    refine XS.iloadN X00.here hx rfl (hb hby d_jdk_43_method_13_code_19) rfl ?_
    show own_At p e below m s₁ 20 #[.val (.ref t0), .val (.ref t1), .val (.int (4 : Int32))] [(.int (4 : Int32)), (.ref t1), (.int (99 : Int32))] t
    refine X00.baloadBytes hx (j := (4 : Int32)) (v := (.int (99 : Int32))) (by rw [e00]; exact Ar44.1) (State.isArrayOf_alike hZ.alike Ar44.2.1) Ar44.2.2 hin45 hat46 (g := (mkF m 20 #[.val (.ref t0), .val (.ref t1), .val (.int (4 : Int32))] [(.int (4 : Int32)), (.ref t1), (.int (99 : Int32))])) rfl rfl (hb hby d_jdk_43_method_13_code_20) _ ?_
    show own_At p e below m s₁ 21 #[.val (.ref t0), .val (.ref t1), .val (.int (4 : Int32))] [(.int (99 : Int32)), (.int (99 : Int32))] t
    refine XS.icmpYes X00.here hx rfl (pc0 := 21) (pc' := 26) rfl (hb hby d_jdk_43_method_13_code_21) rfl (teq (by decide : (99 : Int32) = (99 : Int32))).1 (by decide) (by decide) ?_
    show own_At p e below m s₁ 26 #[.val (.ref t0), .val (.ref t1), .val (.int (4 : Int32))] [] t
    refine XS.iinc X00.here hx rfl (hb hby d_jdk_43_method_13_code_26) rfl (l' := #[.val (.ref t0), .val (.ref t1), .val (.int ((4 : Int32) + (1 : Int32)))]) rfl ?_
    show own_At p e below m s₁ 29 #[.val (.ref t0), .val (.ref t1), .val (.int ((4 : Int32) + (1 : Int32)))] [] t
    rw [show ((4 : Int32) + (1 : Int32)) = (5 : Int32) from by decide]
    show own_At p e below m s₁ 29 #[.val (.ref t0), .val (.ref t1), .val (.int (5 : Int32))] [] t
    refine XS.goto X00.here hx rfl (pc0 := 29) (pc' := 9) rfl (hb hby d_jdk_43_method_13_code_29) (by decide) (by decide) ?_
    show own_At p e below m s₁ 9 #[.val (.ref t0), .val (.ref t1), .val (.int (5 : Int32))] [] t
    refine XS.iloadN X00.here hx rfl (hb hby d_jdk_43_method_13_code_9) rfl ?_
    show own_At p e below m s₁ 10 #[.val (.ref t0), .val (.ref t1), .val (.int (5 : Int32))] [(.int (5 : Int32))] t
    refine XS.aloadN X00.here hx rfl (hb hby d_jdk_43_method_13_code_10) rfl rfl ?_
    show own_At p e below m s₁ 11 #[.val (.ref t0), .val (.ref t1), .val (.int (5 : Int32))] [(.ref t0), (.int (5 : Int32))] t
    refine X00.arraylength hx (by rw [e00]; exact Ar47.1) (State.isArrayOf_alike hZ.alike Ar47.2.1) (g := (mkF m 11 #[.val (.ref t0), .val (.ref t1), .val (.int (5 : Int32))] [(.ref t0), (.int (5 : Int32))])) rfl rfl (hb hby d_jdk_43_method_13_code_11) _ ?_
    rw [len_of Sz47 Nn47]
    show own_At p e below m s₁ 12 #[.val (.ref t0), .val (.ref t1), .val (.int (5 : Int32))] [(.int (9 : Int32)), (.int (5 : Int32))] t
    refine XS.icmpNo X00.here hx rfl (hb hby d_jdk_43_method_13_code_12) rfl (tlt (by decide : (5 : Int32) < (9 : Int32))).2.1 ?_
    show own_At p e below m s₁ 15 #[.val (.ref t0), .val (.ref t1), .val (.int (5 : Int32))] [] t
    refine XS.aloadN X00.here hx rfl (hb hby d_jdk_43_method_13_code_15) rfl rfl ?_
    show own_At p e below m s₁ 16 #[.val (.ref t0), .val (.ref t1), .val (.int (5 : Int32))] [(.ref t0)] t
    refine XS.iloadN X00.here hx rfl (hb hby d_jdk_43_method_13_code_16) rfl ?_
    show own_At p e below m s₁ 17 #[.val (.ref t0), .val (.ref t1), .val (.int (5 : Int32))] [(.int (5 : Int32)), (.ref t0)] t
    refine X00.baloadBytes hx (j := (5 : Int32)) (v := (.int (104 : Int32))) (by rw [e00]; exact Ar48.1) (State.isArrayOf_alike hZ.alike Ar48.2.1) Ar48.2.2 hin49 hat50 (g := (mkF m 17 #[.val (.ref t0), .val (.ref t1), .val (.int (5 : Int32))] [(.int (5 : Int32)), (.ref t0)])) rfl rfl (hb hby d_jdk_43_method_13_code_17) _ ?_
    show own_At p e below m s₁ 18 #[.val (.ref t0), .val (.ref t1), .val (.int (5 : Int32))] [(.int (104 : Int32))] t
    refine XS.aloadN X00.here hx rfl (hb hby d_jdk_43_method_13_code_18) rfl rfl ?_
    show own_At p e below m s₁ 19 #[.val (.ref t0), .val (.ref t1), .val (.int (5 : Int32))] [(.ref t1), (.int (104 : Int32))] t
    refine XS.iloadN X00.here hx rfl (hb hby d_jdk_43_method_13_code_19) rfl ?_
    show own_At p e below m s₁ 20 #[.val (.ref t0), .val (.ref t1), .val (.int (5 : Int32))] [(.int (5 : Int32)), (.ref t1), (.int (104 : Int32))] t
    refine X00.baloadBytes hx (j := (5 : Int32)) (v := (.int (104 : Int32))) (by rw [e00]; exact Ar51.1) (State.isArrayOf_alike hZ.alike Ar51.2.1) Ar51.2.2 hin52 hat53 (g := (mkF m 20 #[.val (.ref t0), .val (.ref t1), .val (.int (5 : Int32))] [(.int (5 : Int32)), (.ref t1), (.int (104 : Int32))])) rfl rfl (hb hby d_jdk_43_method_13_code_20) _ ?_
    show own_At p e below m s₁ 21 #[.val (.ref t0), .val (.ref t1), .val (.int (5 : Int32))] [(.int (104 : Int32)), (.int (104 : Int32))] t
    refine XS.icmpYes X00.here hx rfl (pc0 := 21) (pc' := 26) rfl (hb hby d_jdk_43_method_13_code_21) rfl (teq (by decide : (104 : Int32) = (104 : Int32))).1 (by decide) (by decide) ?_
    show own_At p e below m s₁ 26 #[.val (.ref t0), .val (.ref t1), .val (.int (5 : Int32))] [] t
    refine XS.iinc X00.here hx rfl (hb hby d_jdk_43_method_13_code_26) rfl (l' := #[.val (.ref t0), .val (.ref t1), .val (.int ((5 : Int32) + (1 : Int32)))]) rfl ?_
    show own_At p e below m s₁ 29 #[.val (.ref t0), .val (.ref t1), .val (.int ((5 : Int32) + (1 : Int32)))] [] t
    rw [show ((5 : Int32) + (1 : Int32)) = (6 : Int32) from by decide]
    show own_At p e below m s₁ 29 #[.val (.ref t0), .val (.ref t1), .val (.int (6 : Int32))] [] t
    refine XS.goto X00.here hx rfl (pc0 := 29) (pc' := 9) rfl (hb hby d_jdk_43_method_13_code_29) (by decide) (by decide) ?_
    show own_At p e below m s₁ 9 #[.val (.ref t0), .val (.ref t1), .val (.int (6 : Int32))] [] t
    refine XS.iloadN X00.here hx rfl (hb hby d_jdk_43_method_13_code_9) rfl ?_
    show own_At p e below m s₁ 10 #[.val (.ref t0), .val (.ref t1), .val (.int (6 : Int32))] [(.int (6 : Int32))] t
    refine XS.aloadN X00.here hx rfl (hb hby d_jdk_43_method_13_code_10) rfl rfl ?_
    show own_At p e below m s₁ 11 #[.val (.ref t0), .val (.ref t1), .val (.int (6 : Int32))] [(.ref t0), (.int (6 : Int32))] t
    refine X00.arraylength hx (by rw [e00]; exact Ar54.1) (State.isArrayOf_alike hZ.alike Ar54.2.1) (g := (mkF m 11 #[.val (.ref t0), .val (.ref t1), .val (.int (6 : Int32))] [(.ref t0), (.int (6 : Int32))])) rfl rfl (hb hby d_jdk_43_method_13_code_11) _ ?_
    rw [len_of Sz54 Nn54]
    show own_At p e below m s₁ 12 #[.val (.ref t0), .val (.ref t1), .val (.int (6 : Int32))] [(.int (9 : Int32)), (.int (6 : Int32))] t
    refine XS.icmpNo X00.here hx rfl (hb hby d_jdk_43_method_13_code_12) rfl (tlt (by decide : (6 : Int32) < (9 : Int32))).2.1 ?_
    show own_At p e below m s₁ 15 #[.val (.ref t0), .val (.ref t1), .val (.int (6 : Int32))] [] t
    refine XS.aloadN X00.here hx rfl (hb hby d_jdk_43_method_13_code_15) rfl rfl ?_
    show own_At p e below m s₁ 16 #[.val (.ref t0), .val (.ref t1), .val (.int (6 : Int32))] [(.ref t0)] t
    refine XS.iloadN X00.here hx rfl (hb hby d_jdk_43_method_13_code_16) rfl ?_
    show own_At p e below m s₁ 17 #[.val (.ref t0), .val (.ref t1), .val (.int (6 : Int32))] [(.int (6 : Int32)), (.ref t0)] t
    refine X00.baloadBytes hx (j := (6 : Int32)) (v := (.int (101 : Int32))) (by rw [e00]; exact Ar55.1) (State.isArrayOf_alike hZ.alike Ar55.2.1) Ar55.2.2 hin56 hat57 (g := (mkF m 17 #[.val (.ref t0), .val (.ref t1), .val (.int (6 : Int32))] [(.int (6 : Int32)), (.ref t0)])) rfl rfl (hb hby d_jdk_43_method_13_code_17) _ ?_
    show own_At p e below m s₁ 18 #[.val (.ref t0), .val (.ref t1), .val (.int (6 : Int32))] [(.int (101 : Int32))] t
    refine XS.aloadN X00.here hx rfl (hb hby d_jdk_43_method_13_code_18) rfl rfl ?_
    show own_At p e below m s₁ 19 #[.val (.ref t0), .val (.ref t1), .val (.int (6 : Int32))] [(.ref t1), (.int (101 : Int32))] t
    refine XS.iloadN X00.here hx rfl (hb hby d_jdk_43_method_13_code_19) rfl ?_
    show own_At p e below m s₁ 20 #[.val (.ref t0), .val (.ref t1), .val (.int (6 : Int32))] [(.int (6 : Int32)), (.ref t1), (.int (101 : Int32))] t
    refine X00.baloadBytes hx (j := (6 : Int32)) (v := (.int (101 : Int32))) (by rw [e00]; exact Ar58.1) (State.isArrayOf_alike hZ.alike Ar58.2.1) Ar58.2.2 hin59 hat60 (g := (mkF m 20 #[.val (.ref t0), .val (.ref t1), .val (.int (6 : Int32))] [(.int (6 : Int32)), (.ref t1), (.int (101 : Int32))])) rfl rfl (hb hby d_jdk_43_method_13_code_20) _ ?_
    show own_At p e below m s₁ 21 #[.val (.ref t0), .val (.ref t1), .val (.int (6 : Int32))] [(.int (101 : Int32)), (.int (101 : Int32))] t
    refine XS.icmpYes X00.here hx rfl (pc0 := 21) (pc' := 26) rfl (hb hby d_jdk_43_method_13_code_21) rfl (teq (by decide : (101 : Int32) = (101 : Int32))).1 (by decide) (by decide) ?_
    show own_At p e below m s₁ 26 #[.val (.ref t0), .val (.ref t1), .val (.int (6 : Int32))] [] t
    refine XS.iinc X00.here hx rfl (hb hby d_jdk_43_method_13_code_26) rfl (l' := #[.val (.ref t0), .val (.ref t1), .val (.int ((6 : Int32) + (1 : Int32)))]) rfl ?_
    show own_At p e below m s₁ 29 #[.val (.ref t0), .val (.ref t1), .val (.int ((6 : Int32) + (1 : Int32)))] [] t
    rw [show ((6 : Int32) + (1 : Int32)) = (7 : Int32) from by decide]
    show own_At p e below m s₁ 29 #[.val (.ref t0), .val (.ref t1), .val (.int (7 : Int32))] [] t
    refine XS.goto X00.here hx rfl (pc0 := 29) (pc' := 9) rfl (hb hby d_jdk_43_method_13_code_29) (by decide) (by decide) ?_
    show own_At p e below m s₁ 9 #[.val (.ref t0), .val (.ref t1), .val (.int (7 : Int32))] [] t
    refine XS.iloadN X00.here hx rfl (hb hby d_jdk_43_method_13_code_9) rfl ?_
    show own_At p e below m s₁ 10 #[.val (.ref t0), .val (.ref t1), .val (.int (7 : Int32))] [(.int (7 : Int32))] t
    refine XS.aloadN X00.here hx rfl (hb hby d_jdk_43_method_13_code_10) rfl rfl ?_
    show own_At p e below m s₁ 11 #[.val (.ref t0), .val (.ref t1), .val (.int (7 : Int32))] [(.ref t0), (.int (7 : Int32))] t
    refine X00.arraylength hx (by rw [e00]; exact Ar61.1) (State.isArrayOf_alike hZ.alike Ar61.2.1) (g := (mkF m 11 #[.val (.ref t0), .val (.ref t1), .val (.int (7 : Int32))] [(.ref t0), (.int (7 : Int32))])) rfl rfl (hb hby d_jdk_43_method_13_code_11) _ ?_
    rw [len_of Sz61 Nn61]
    show own_At p e below m s₁ 12 #[.val (.ref t0), .val (.ref t1), .val (.int (7 : Int32))] [(.int (9 : Int32)), (.int (7 : Int32))] t
    refine XS.icmpNo X00.here hx rfl (hb hby d_jdk_43_method_13_code_12) rfl (tlt (by decide : (7 : Int32) < (9 : Int32))).2.1 ?_
    show own_At p e below m s₁ 15 #[.val (.ref t0), .val (.ref t1), .val (.int (7 : Int32))] [] t
    refine XS.aloadN X00.here hx rfl (hb hby d_jdk_43_method_13_code_15) rfl rfl ?_
    show own_At p e below m s₁ 16 #[.val (.ref t0), .val (.ref t1), .val (.int (7 : Int32))] [(.ref t0)] t
    refine XS.iloadN X00.here hx rfl (hb hby d_jdk_43_method_13_code_16) rfl ?_
    show own_At p e below m s₁ 17 #[.val (.ref t0), .val (.ref t1), .val (.int (7 : Int32))] [(.int (7 : Int32)), (.ref t0)] t
    refine X00.baloadBytes hx (j := (7 : Int32)) (v := (.int (99 : Int32))) (by rw [e00]; exact Ar62.1) (State.isArrayOf_alike hZ.alike Ar62.2.1) Ar62.2.2 hin63 hat64 (g := (mkF m 17 #[.val (.ref t0), .val (.ref t1), .val (.int (7 : Int32))] [(.int (7 : Int32)), (.ref t0)])) rfl rfl (hb hby d_jdk_43_method_13_code_17) _ ?_
    show own_At p e below m s₁ 18 #[.val (.ref t0), .val (.ref t1), .val (.int (7 : Int32))] [(.int (99 : Int32))] t
    refine XS.aloadN X00.here hx rfl (hb hby d_jdk_43_method_13_code_18) rfl rfl ?_
    show own_At p e below m s₁ 19 #[.val (.ref t0), .val (.ref t1), .val (.int (7 : Int32))] [(.ref t1), (.int (99 : Int32))] t
    refine XS.iloadN X00.here hx rfl (hb hby d_jdk_43_method_13_code_19) rfl ?_
    show own_At p e below m s₁ 20 #[.val (.ref t0), .val (.ref t1), .val (.int (7 : Int32))] [(.int (7 : Int32)), (.ref t1), (.int (99 : Int32))] t
    refine X00.baloadBytes hx (j := (7 : Int32)) (v := (.int (99 : Int32))) (by rw [e00]; exact Ar65.1) (State.isArrayOf_alike hZ.alike Ar65.2.1) Ar65.2.2 hin66 hat67 (g := (mkF m 20 #[.val (.ref t0), .val (.ref t1), .val (.int (7 : Int32))] [(.int (7 : Int32)), (.ref t1), (.int (99 : Int32))])) rfl rfl (hb hby d_jdk_43_method_13_code_20) _ ?_
    show own_At p e below m s₁ 21 #[.val (.ref t0), .val (.ref t1), .val (.int (7 : Int32))] [(.int (99 : Int32)), (.int (99 : Int32))] t
    refine XS.icmpYes X00.here hx rfl (pc0 := 21) (pc' := 26) rfl (hb hby d_jdk_43_method_13_code_21) rfl (teq (by decide : (99 : Int32) = (99 : Int32))).1 (by decide) (by decide) ?_
    show own_At p e below m s₁ 26 #[.val (.ref t0), .val (.ref t1), .val (.int (7 : Int32))] [] t
    refine XS.iinc X00.here hx rfl (hb hby d_jdk_43_method_13_code_26) rfl (l' := #[.val (.ref t0), .val (.ref t1), .val (.int ((7 : Int32) + (1 : Int32)))]) rfl ?_
    show own_At p e below m s₁ 29 #[.val (.ref t0), .val (.ref t1), .val (.int ((7 : Int32) + (1 : Int32)))] [] t
    rw [show ((7 : Int32) + (1 : Int32)) = (8 : Int32) from by decide]
    show own_At p e below m s₁ 29 #[.val (.ref t0), .val (.ref t1), .val (.int (8 : Int32))] [] t
    refine XS.goto X00.here hx rfl (pc0 := 29) (pc' := 9) rfl (hb hby d_jdk_43_method_13_code_29) (by decide) (by decide) ?_
    show own_At p e below m s₁ 9 #[.val (.ref t0), .val (.ref t1), .val (.int (8 : Int32))] [] t
    refine XS.iloadN X00.here hx rfl (hb hby d_jdk_43_method_13_code_9) rfl ?_
    show own_At p e below m s₁ 10 #[.val (.ref t0), .val (.ref t1), .val (.int (8 : Int32))] [(.int (8 : Int32))] t
    refine XS.aloadN X00.here hx rfl (hb hby d_jdk_43_method_13_code_10) rfl rfl ?_
    show own_At p e below m s₁ 11 #[.val (.ref t0), .val (.ref t1), .val (.int (8 : Int32))] [(.ref t0), (.int (8 : Int32))] t
    refine X00.arraylength hx (by rw [e00]; exact Ar68.1) (State.isArrayOf_alike hZ.alike Ar68.2.1) (g := (mkF m 11 #[.val (.ref t0), .val (.ref t1), .val (.int (8 : Int32))] [(.ref t0), (.int (8 : Int32))])) rfl rfl (hb hby d_jdk_43_method_13_code_11) _ ?_
    rw [len_of Sz68 Nn68]
    show own_At p e below m s₁ 12 #[.val (.ref t0), .val (.ref t1), .val (.int (8 : Int32))] [(.int (9 : Int32)), (.int (8 : Int32))] t
    refine XS.icmpNo X00.here hx rfl (hb hby d_jdk_43_method_13_code_12) rfl (tlt (by decide : (8 : Int32) < (9 : Int32))).2.1 ?_
    show own_At p e below m s₁ 15 #[.val (.ref t0), .val (.ref t1), .val (.int (8 : Int32))] [] t
    refine XS.aloadN X00.here hx rfl (hb hby d_jdk_43_method_13_code_15) rfl rfl ?_
    show own_At p e below m s₁ 16 #[.val (.ref t0), .val (.ref t1), .val (.int (8 : Int32))] [(.ref t0)] t
    refine XS.iloadN X00.here hx rfl (hb hby d_jdk_43_method_13_code_16) rfl ?_
    show own_At p e below m s₁ 17 #[.val (.ref t0), .val (.ref t1), .val (.int (8 : Int32))] [(.int (8 : Int32)), (.ref t0)] t
    refine X00.baloadBytes hx (j := (8 : Int32)) (v := (.int (107 : Int32))) (by rw [e00]; exact Ar69.1) (State.isArrayOf_alike hZ.alike Ar69.2.1) Ar69.2.2 hin70 hat71 (g := (mkF m 17 #[.val (.ref t0), .val (.ref t1), .val (.int (8 : Int32))] [(.int (8 : Int32)), (.ref t0)])) rfl rfl (hb hby d_jdk_43_method_13_code_17) _ ?_
    show own_At p e below m s₁ 18 #[.val (.ref t0), .val (.ref t1), .val (.int (8 : Int32))] [(.int (107 : Int32))] t
    refine XS.aloadN X00.here hx rfl (hb hby d_jdk_43_method_13_code_18) rfl rfl ?_
    show own_At p e below m s₁ 19 #[.val (.ref t0), .val (.ref t1), .val (.int (8 : Int32))] [(.ref t1), (.int (107 : Int32))] t
    refine XS.iloadN X00.here hx rfl (hb hby d_jdk_43_method_13_code_19) rfl ?_
    show own_At p e below m s₁ 20 #[.val (.ref t0), .val (.ref t1), .val (.int (8 : Int32))] [(.int (8 : Int32)), (.ref t1), (.int (107 : Int32))] t
    refine X00.baloadBytes hx (j := (8 : Int32)) (v := (.int (107 : Int32))) (by rw [e00]; exact Ar72.1) (State.isArrayOf_alike hZ.alike Ar72.2.1) Ar72.2.2 hin73 hat74 (g := (mkF m 20 #[.val (.ref t0), .val (.ref t1), .val (.int (8 : Int32))] [(.int (8 : Int32)), (.ref t1), (.int (107 : Int32))])) rfl rfl (hb hby d_jdk_43_method_13_code_20) _ ?_
    show own_At p e below m s₁ 21 #[.val (.ref t0), .val (.ref t1), .val (.int (8 : Int32))] [(.int (107 : Int32)), (.int (107 : Int32))] t
    refine XS.icmpYes X00.here hx rfl (pc0 := 21) (pc' := 26) rfl (hb hby d_jdk_43_method_13_code_21) rfl (teq (by decide : (107 : Int32) = (107 : Int32))).1 (by decide) (by decide) ?_
    show own_At p e below m s₁ 26 #[.val (.ref t0), .val (.ref t1), .val (.int (8 : Int32))] [] t
    refine XS.iinc X00.here hx rfl (hb hby d_jdk_43_method_13_code_26) rfl (l' := #[.val (.ref t0), .val (.ref t1), .val (.int ((8 : Int32) + (1 : Int32)))]) rfl ?_
    show own_At p e below m s₁ 29 #[.val (.ref t0), .val (.ref t1), .val (.int ((8 : Int32) + (1 : Int32)))] [] t
    rw [show ((8 : Int32) + (1 : Int32)) = (9 : Int32) from by decide]
    show own_At p e below m s₁ 29 #[.val (.ref t0), .val (.ref t1), .val (.int (9 : Int32))] [] t
    refine XS.goto X00.here hx rfl (pc0 := 29) (pc' := 9) rfl (hb hby d_jdk_43_method_13_code_29) (by decide) (by decide) ?_
    show own_At p e below m s₁ 9 #[.val (.ref t0), .val (.ref t1), .val (.int (9 : Int32))] [] t
    refine XS.iloadN X00.here hx rfl (hb hby d_jdk_43_method_13_code_9) rfl ?_
    show own_At p e below m s₁ 10 #[.val (.ref t0), .val (.ref t1), .val (.int (9 : Int32))] [(.int (9 : Int32))] t
    refine XS.aloadN X00.here hx rfl (hb hby d_jdk_43_method_13_code_10) rfl rfl ?_
    show own_At p e below m s₁ 11 #[.val (.ref t0), .val (.ref t1), .val (.int (9 : Int32))] [(.ref t0), (.int (9 : Int32))] t
    refine X00.arraylength hx (by rw [e00]; exact Ar75.1) (State.isArrayOf_alike hZ.alike Ar75.2.1) (g := (mkF m 11 #[.val (.ref t0), .val (.ref t1), .val (.int (9 : Int32))] [(.ref t0), (.int (9 : Int32))])) rfl rfl (hb hby d_jdk_43_method_13_code_11) _ ?_
    rw [len_of Sz75 Nn75]
    show own_At p e below m s₁ 12 #[.val (.ref t0), .val (.ref t1), .val (.int (9 : Int32))] [(.int (9 : Int32)), (.int (9 : Int32))] t
    refine XS.icmpYes X00.here hx rfl (pc0 := 12) (pc' := 32) rfl (hb hby d_jdk_43_method_13_code_12) rfl (flt (by decide : ¬ ((9 : Int32) < (9 : Int32)))).2.1 (by decide) (by decide) ?_
    show own_At p e below m s₁ 32 #[.val (.ref t0), .val (.ref t1), .val (.int (9 : Int32))] [] t
    refine XS.iconst X00.here hx rfl (hb hby d_jdk_43_method_13_code_32) ?_
    show own_At p e below m s₁ 33 #[.val (.ref t0), .val (.ref t1), .val (.int (9 : Int32))] [(.int (1 : Int32))] t
    exact k
  obtain ⟨fs, hr, hrun, hended, hW, hsame⟩ := X00.leave (v := some (.int (1 : Int32))) (fun h => by rw [Bd.returns] at h; cases h)
  refine hNG ⟨_, _, k76 _ ?_, hrun, hended, _, _, rfl, ?_, ⟨_, rfl⟩, hW, hsame.mono (by decide) (by decide)⟩
  · exact retN X00 hx (t := .boolean) Bd.returns (by simp) (hb hby d_jdk_43_method_13_code_33) hr
  · show Q_leq2 Z t0 t1 k0 k1 a__VALUES a_ONE a_BATCH a_ONE_path a_BATCH_path a_ONE_path_value a_BATCH_path_value z_COMPACT_STRINGS r_SIOOBE_FORMATTER h0 n0 _ s₁.heap _
    rw [e00]
    exact ⟨rfl, N00, rfl⟩
theorem ef_eq2 (m : MethodId) (x0 : Addr) (x1 : Addr)  : entryFrame m #[(.ref x0), (.ref x1)] 3 = mkF m 0 #[.val (.ref x0), .val (.ref x1), .unset] [] := by first | (simp [entryFrame, mkF, argsToLocals, Value.category]; done) | rfl
theorem d_jdk_42_method_66_code_50 : decode jdk_42_method_66_code 50 = .ok (.iconst 1, 1) := by decide +kernel
theorem d_jdk_42_method_66_code_51 : decode jdk_42_method_66_code 51 = .ok (.goto 4, 3) := by decide +kernel
def Q_eq2 (Z : State) (q0 : Addr) (q1 : Addr) (t0 : Addr) (t1 : Addr) (k0 : ClassId) (k1 : ClassId) (a__VALUES : Addr) (a_ONE : Addr) (a_BATCH : Addr) (a_ONE_path : Addr) (a_BATCH_path : Addr) (a_ONE_path_value : Addr) (a_BATCH_path_value : Addr) (z_COMPACT_STRINGS : Int32) (r_SIOOBE_FORMATTER : Value) (h0 : Heap) (n0 : Nat) (v : Option Value) (h : Heap) (L : List Loc) : Prop := v = some (.int (1 : Int32)) ∧ Fr n0 L ∧ h = h0
set_option maxRecDepth 65536 in
set_option maxHeartbeats 40000000 in
theorem rm_eq2 (l : Launch) (Z : State) (a0 : Array Value) (hw : ∀ d ∈ tables_1, d.before a0 Z = true) (ws : List Jvm.Cond) (q0 : Addr) (q1 : Addr) (t0 : Addr) (t1 : Addr) (k0 : ClassId) (k1 : ClassId) (a__VALUES : Addr) (a_ONE : Addr) (a_BATCH : Addr) (a_ONE_path : Addr) (a_BATCH_path : Addr) (a_ONE_path_value : Addr) (a_BATCH_path_value : Addr) (z_COMPACT_STRINGS : Int32) (r_SIOOBE_FORMATTER : Value) (h0 : Heap) (n0 : Nat) (O0 : Old Z n0 h0) (hE : EV Z a__VALUES a_ONE a_BATCH a_ONE_path a_BATCH_path a_ONE_path_value a_BATCH_path_value z_COMPACT_STRINGS r_SIOOBE_FORMATTER) (P0 : Exa Z h0 q0 "java/lang/String") (P1 : Fld Z h0 q0 "java/lang/String" "coder" "B" (.int (0 : Int32))) (P2 : Fld Z h0 q0 "java/lang/String" "value" "[B" (.ref t0)) (P3 : Arv Z h0 t0 k0 .byte (9 : Int32) [(.int (47 : Int32)), (.int (118 : Int32)), (.int (49 : Int32)), (.int (47 : Int32)), (.int (99 : Int32)), (.int (104 : Int32)), (.int (101 : Int32)), (.int (99 : Int32)), (.int (107 : Int32))] (.int (0 : Int32))) (P4 : Exa Z h0 q1 "java/lang/String") (P5 : Fld Z h0 q1 "java/lang/String" "coder" "B" (.int (0 : Int32))) (P6 : Fld Z h0 q1 "java/lang/String" "value" "[B" (.ref t1)) (P7 : Arv Z h0 t1 k1 .byte (9 : Int32) [(.int (47 : Int32)), (.int (118 : Int32)), (.int (49 : Int32)), (.int (47 : Int32)), (.int (99 : Int32)), (.int (104 : Int32)), (.int (101 : Int32)), (.int (99 : Int32)), (.int (107 : Int32))] (.int (0 : Int32))) :
    MetFree l own_m2 (head1 (Jvm.Cond.code own_m2 jdk_42_method_66_code 3 (some .boolean) :: ws) ({ frames := 1, cells := 0, slots := 0, locals := 14 } : Room)) (fun a U => a = #[(.ref q0), (.ref q1)] ∧ Z.Warmed39 U.vm ∧ U.heap = h0) (fun _ _ _ _ _ => True) (fun _ U o U' => ∃ v L, o = .returned v ∧ Q_eq2 Z q0 q1 t0 t1 k0 k1 a__VALUES a_ONE a_BATCH a_ONE_path a_BATCH_path a_ONE_path_value a_BATCH_path_value z_COMPACT_STRINGS r_SIOOBE_FORMATTER h0 n0 v U'.heap L ∧ FrameEnd U o U' L ({ frames := 1, cells := 0, slots := 0, locals := 14 } : Room).cells ({ frames := 1, cells := 0, slots := 0, locals := 14 } : Room).slots) := by
  refine MetFree.of_bodySF (plainFor_of_name pn_java_lang_String) hisR ?_
  intro p e s m args below meth c s₁ Bd hml0 hP hK
  obtain ⟨rfl, hZ, hh⟩ := hP
  have hx := Bd.exec
  have hby := Bd.bytes
  have hml : c.maxLocals = 3 := hml0
  have hown : s.vm.findClass "java/lang/String" = some m.cls := findClass_of_methodNamed Bd.named
  have hnm := (name_of_methodNamed Bd.named Bd.method).1
  have X00 : Stand p l e ({ frames := 1, cells := 0, slots := 0, locals := 14 } : Room) s m #[(.ref q0), (.ref q1)] below meth c s₁ [] 0 0 := Stand.of_body Bd
  have e00 : s₁.heap = h0 := by rw [← hh, Bd.state]; rfl
  have N00 := Fr.nil n0
  refine Classical.byContradiction fun hNG => ?_
  have K00 := Keep.refl h0 []
  have k00 : ∀ t, own_At p e below m s₁ 0 #[.val (.ref q0), .val (.ref q1), .unset] [] t → own_En p e below m s₁ #[(.ref q0), (.ref q1)] 3 t := fun t k => castTop (ef_eq2 m q0 q1 ) k
  obtain ⟨S__VALUES, E__VALUES, S_ONE, E_ONE, S_BATCH, E_BATCH, F_ONE_path, E_ONE_path, F_BATCH_path, E_BATCH_path, F_ONE_path_coder, F_ONE_path_value, F_BATCH_path_coder, F_BATCH_path_value, ne_BATCH_path_ONE_path, S_COMPACT_STRINGS, nz_COMPACT_STRINGS, S_SIOOBE_FORMATTER, iS_SIOOBE_FORMATTER, C__VALUES, C_ONE_path_value, C_BATCH_path_value⟩ := (id hE : EV Z a__VALUES a_ONE a_BATCH a_ONE_path a_BATCH_path a_ONE_path_value a_BATCH_path_value z_COMPACT_STRINGS r_SIOOBE_FORMATTER)
  obtain ⟨kw_ONE_path, Aw_ONE_path⟩ := C_ONE_path_value.arv
  obtain ⟨kw_BATCH_path, Aw_BATCH_path⟩ := C_BATCH_path_value.arv
  have k10 : ∀ t, own_At p e below m s₁ 2 #[.val (.ref q0), .val (.ref q1), .unset] [(.ref q1), (.ref q0)] t → own_En p e below m s₁ #[(.ref q0), (.ref q1)] 3 t := by
    intro t k
    refine k00 t ?_
    refine XS.aloadN X00.here hx rfl (hb hby d_jdk_42_method_66_code_0) rfl rfl ?_
    show own_At p e below m s₁ 1 #[.val (.ref q0), .val (.ref q1), .unset] [(.ref q0)] t
    refine XS.aloadN X00.here hx rfl (hb hby d_jdk_42_method_66_code_1) rfl rfl ?_
    show own_At p e below m s₁ 2 #[.val (.ref q0), .val (.ref q1), .unset] [(.ref q1), (.ref q0)] t
    exact k
  by_cases hc11 : q0 = q1
  · have k12 : ∀ t, own_At p e below m s₁ 6 #[.val (.ref q0), .val (.ref q1), .unset] [(.int (1 : Int32))] t → own_En p e below m s₁ #[(.ref q0), (.ref q1)] 3 t := by
      intro t k
      refine k10 t ?_
      refine Jvm.RoadKit.acmp (g := (mkF m 2 #[.val (.ref q0), .val (.ref q1), .unset] [(.ref q1), (.ref q0)])) X00 hx rfl rfl rfl (pc0 := 2) (pc' := 5) (same := true) rfl (hb hby d_jdk_42_method_66_code_2) rfl (decide_eq_true (congrArg Value.ref hc11)) (by decide) (by decide) ?_
      show own_At p e below m s₁ 5 #[.val (.ref q0), .val (.ref q1), .unset] [] t
      refine XS.iconst X00.here hx rfl (hb hby d_jdk_42_method_66_code_5) ?_
      show own_At p e below m s₁ 6 #[.val (.ref q0), .val (.ref q1), .unset] [(.int (1 : Int32))] t
      exact k
    obtain ⟨fs, hr, hrun, hended, hW, hsame⟩ := X00.leave (v := some (.int (1 : Int32))) (fun h => by rw [Bd.returns] at h; cases h)
    refine hNG ⟨_, _, k12 _ ?_, hrun, hended, _, _, rfl, ?_, ⟨_, rfl⟩, hW, hsame.mono (by decide) (by decide)⟩
    · exact retN X00 hx (t := .boolean) Bd.returns (by simp) (hb hby d_jdk_42_method_66_code_6) hr
    · show Q_eq2 Z q0 q1 t0 t1 k0 k1 a__VALUES a_ONE a_BATCH a_ONE_path a_BATCH_path a_ONE_path_value a_BATCH_path_value z_COMPACT_STRINGS r_SIOOBE_FORMATTER h0 n0 _ s₁.heap _
      rw [e00]
      exact ⟨rfl, N00, rfl⟩
  · obtain ⟨T13, X13, e13, st13⟩ := instY X00 hx hZ hown (own_w hw 39 rfl) e00 (Ins.self P4) (g := (mkF m 8 #[.val (.ref q0), .val (.ref q1), .unset] [(.ref q1)])) rfl rfl (hb hby d_jdk_42_method_66_code_8)
    obtain ⟨T14, X14, e14, st14⟩ := castY X13 hx hZ hown (own_w hw 39 rfl) e13 (Ins.self P4) (g := (mkF m 15 #[.val (.ref q0), .val (.ref q1), .unset] [(.ref q1)])) rfl rfl (hb hby d_jdk_42_method_66_code_15)
    obtain ⟨T15, X15, e15, st15⟩ := getS2 X14 hx hZ hown (host := "") (Or.inl (own_w hw 40 rfl)) Via.refl e14 (S_COMPACT_STRINGS.ext O0.2) (g := (mkF m 19 #[.val (.ref q0), .val (.ref q1), .val (.ref q1)] [])) rfl (hb hby d_jdk_42_method_66_code_19)
    obtain ⟨T16, X16, e16, st16⟩ := getF X15 hx hZ hown (host := "") (Or.inl (own_w hw 41 rfl)) Via.refl e15 P1 (g := (mkF m 26 #[.val (.ref q0), .val (.ref q1), .val (.ref q1)] [(.ref q0)])) rfl rfl (hb hby d_jdk_42_method_66_code_26)
    obtain ⟨T17, X17, e17, st17⟩ := getF X16 hx hZ hown (host := "") (Or.inl (own_w hw 41 rfl)) Via.refl e16 P5 (g := (mkF m 30 #[.val (.ref q0), .val (.ref q1), .val (.ref q1)] [(.ref q1), (.int (0 : Int32))])) rfl rfl (hb hby d_jdk_42_method_66_code_30)
    obtain ⟨T18, X18, e18, st18⟩ := getF X17 hx hZ hown (host := "") (Or.inl (own_w hw 42 rfl)) Via.refl e17 P2 (g := (mkF m 37 #[.val (.ref q0), .val (.ref q1), .val (.ref q1)] [(.ref q0)])) rfl rfl (hb hby d_jdk_42_method_66_code_37)
    obtain ⟨T19, X19, e19, st19⟩ := getF X18 hx hZ hown (host := "") (Or.inl (own_w hw 42 rfl)) Via.refl e18 P6 (g := (mkF m 41 #[.val (.ref q0), .val (.ref q1), .val (.ref q1)] [(.ref q1), (.ref t0)])) rfl rfl (hb hby d_jdk_42_method_66_code_41)
    obtain ⟨_, _, ⟨T20, L20, k20, n20⟩, -, X20, ⟨Lc20, hQ20, l20, y20, z20⟩, st20⟩ := Jvm.LawKit.callS X19 hx (y := own_m4) hown (mvT hZ (own_w hw 43 rfl)) (mvT hZ (own_w hw 44 rfl)) (mvT hZ (own_w hw 45 rfl)) (mvT hZ (own_w hw 46 rfl)) (by decide) (backOf (W := 0) (rm_leq2 l Z a0 hw [] t0 t1 k0 k1 _ _ _ _ _ _ _ _ _ h0 n0 O0 hE P3 P7 ) hZ (own_w hw 46 rfl) (own_w hw 45 rfl) (by decide) (by decide)) (g := (mkF m 44 #[.val (.ref q0), .val (.ref q1), .val (.ref q1)] [(.ref t1), (.ref t0)])) rfl (by rw [hml]; rfl) (argsL := [(.ref t0), (.ref t1)]) (rest := []) (lenOf pd___B_B_Z rfl) rfl (by show 2 * 0 + _ ≤ _; exact Nat.le_of_eq rfl) (hb hby d_jdk_42_method_66_code_44) (fun _ _ => ⟨rfl, e19, (by decide : 0 + 0 ≤ _), (by decide : 0 + 0 ≤ _)⟩)
    dsimp only [Pt.U, Pt.locs, Pt.cells, Pt.slots] at X20 l20 y20 z20 st20 hQ20
    subst l20 y20 z20
    obtain ⟨rfl, N20q, hp20⟩ := hQ20
    have N20 := Fr.app N00 N20q
    have k21 : ∀ t, own_At p e below m T20 55 #[.val (.ref q0), .val (.ref q1), .val (.ref q1)] [(.int (1 : Int32))] t → own_En p e below m s₁ #[(.ref q0), (.ref q1)] 3 t := by
      intro t k
      refine k10 t ?_
      refine Jvm.RoadKit.acmp (g := (mkF m 2 #[.val (.ref q0), .val (.ref q1), .unset] [(.ref q1), (.ref q0)])) X00 hx rfl rfl rfl (pc0 := 2) (pc' := 7) (same := false) rfl (hb hby d_jdk_42_method_66_code_2) rfl (decide_eq_false fun q => hc11 (Value.ref.inj q)) (by decide) (by decide) ?_
      show own_At p e below m s₁ 7 #[.val (.ref q0), .val (.ref q1), .unset] [] t
      refine XS.aloadN X00.here hx rfl (hb hby d_jdk_42_method_66_code_7) rfl rfl ?_
      show own_At p e below m s₁ 8 #[.val (.ref q0), .val (.ref q1), .unset] [(.ref q1)] t
      refine st13 _ ?_
      show own_At p e below m T13 11 #[.val (.ref q0), .val (.ref q1), .unset] [(.int (1 : Int32))] t
      refine XS.ifNo X13.here hx rfl (hb hby d_jdk_42_method_66_code_11) rfl ((if0 _ _).trans (feq (by decide : ¬ ((1 : Int32) = (0 : Int32)))).1) ?_
      show own_At p e below m T13 14 #[.val (.ref q0), .val (.ref q1), .unset] [] t
      refine XS.aloadN X13.here hx rfl (hb hby d_jdk_42_method_66_code_14) rfl rfl ?_
      show own_At p e below m T13 15 #[.val (.ref q0), .val (.ref q1), .unset] [(.ref q1)] t
      refine st14 _ ?_
      show own_At p e below m T14 18 #[.val (.ref q0), .val (.ref q1), .unset] [(.ref q1)] t
      refine XS.astoreN X14.here hx rfl (hb hby d_jdk_42_method_66_code_18) rfl rfl (l' := #[.val (.ref q0), .val (.ref q1), .val (.ref q1)]) rfl ?_
      show own_At p e below m T14 19 #[.val (.ref q0), .val (.ref q1), .val (.ref q1)] [] t
      refine st15 _ ?_
      show own_At p e below m T15 22 #[.val (.ref q0), .val (.ref q1), .val (.ref q1)] [(.int z_COMPACT_STRINGS)] t
      refine XS.ifNo X15.here hx rfl (hb hby d_jdk_42_method_66_code_22) rfl ((if0 _ _).trans (feq nz_COMPACT_STRINGS).1) ?_
      show own_At p e below m T15 25 #[.val (.ref q0), .val (.ref q1), .val (.ref q1)] [] t
      refine XS.aloadN X15.here hx rfl (hb hby d_jdk_42_method_66_code_25) rfl rfl ?_
      show own_At p e below m T15 26 #[.val (.ref q0), .val (.ref q1), .val (.ref q1)] [(.ref q0)] t
      refine st16 _ ?_
      show own_At p e below m T16 29 #[.val (.ref q0), .val (.ref q1), .val (.ref q1)] [(.int (0 : Int32))] t
      refine XS.aloadN X16.here hx rfl (hb hby d_jdk_42_method_66_code_29) rfl rfl ?_
      show own_At p e below m T16 30 #[.val (.ref q0), .val (.ref q1), .val (.ref q1)] [(.ref q1), (.int (0 : Int32))] t
      refine st17 _ ?_
      show own_At p e below m T17 33 #[.val (.ref q0), .val (.ref q1), .val (.ref q1)] [(.int (0 : Int32)), (.int (0 : Int32))] t
      refine XS.icmpNo X17.here hx rfl (hb hby d_jdk_42_method_66_code_33) rfl (teq (by decide : (0 : Int32) = (0 : Int32))).2 ?_
      show own_At p e below m T17 36 #[.val (.ref q0), .val (.ref q1), .val (.ref q1)] [] t
      refine XS.aloadN X17.here hx rfl (hb hby d_jdk_42_method_66_code_36) rfl rfl ?_
      show own_At p e below m T17 37 #[.val (.ref q0), .val (.ref q1), .val (.ref q1)] [(.ref q0)] t
      refine st18 _ ?_
      show own_At p e below m T18 40 #[.val (.ref q0), .val (.ref q1), .val (.ref q1)] [(.ref t0)] t
      refine XS.aloadN X18.here hx rfl (hb hby d_jdk_42_method_66_code_40) rfl rfl ?_
      show own_At p e below m T18 41 #[.val (.ref q0), .val (.ref q1), .val (.ref q1)] [(.ref q1), (.ref t0)] t
      refine st19 _ ?_
      show own_At p e below m T19 44 #[.val (.ref q0), .val (.ref q1), .val (.ref q1)] [(.ref t1), (.ref t0)] t
      refine st20 _ ?_
      show own_At p e below m T20 47 #[.val (.ref q0), .val (.ref q1), .val (.ref q1)] [(.int (1 : Int32))] t
      refine XS.ifNo X20.here hx rfl (hb hby d_jdk_42_method_66_code_47) rfl ((if0 _ _).trans (feq (by decide : ¬ ((1 : Int32) = (0 : Int32)))).1) ?_
      show own_At p e below m T20 50 #[.val (.ref q0), .val (.ref q1), .val (.ref q1)] [] t
      refine XS.iconst X20.here hx rfl (hb hby d_jdk_42_method_66_code_50) ?_
      show own_At p e below m T20 51 #[.val (.ref q0), .val (.ref q1), .val (.ref q1)] [(.int (1 : Int32))] t
      refine XS.goto X20.here hx rfl (pc0 := 51) (pc' := 55) rfl (hb hby d_jdk_42_method_66_code_51) (by decide) (by decide) ?_
      show own_At p e below m T20 55 #[.val (.ref q0), .val (.ref q1), .val (.ref q1)] [(.int (1 : Int32))] t
      exact k
    obtain ⟨fs, hr, hrun, hended, hW, hsame⟩ := X20.leave (v := some (.int (1 : Int32))) (fun h => by rw [Bd.returns] at h; cases h)
    refine hNG ⟨_, _, k21 _ ?_, hrun, hended, _, _, rfl, ?_, ⟨_, rfl⟩, hW, hsame.mono (by decide) (by decide)⟩
    · exact retN X20 hx (t := .boolean) Bd.returns (by simp) (hb hby d_jdk_42_method_66_code_55) hr
    · show Q_eq2 Z q0 q1 t0 t1 k0 k1 a__VALUES a_ONE a_BATCH a_ONE_path a_BATCH_path a_ONE_path_value a_BATCH_path_value z_COMPACT_STRINGS r_SIOOBE_FORMATTER h0 n0 _ T20.heap _
      rw [hp20]
      exact ⟨rfl, N20, rfl⟩
theorem ef_leq3 (m : MethodId) (x0 : Addr) (x1 : Addr)  : entryFrame m #[(.ref x0), (.ref x1)] 3 = mkF m 0 #[.val (.ref x0), .val (.ref x1), .unset] [] := by first | (simp [entryFrame, mkF, argsToLocals, Value.category]; done) | rfl
def Q_leq3 (Z : State) (t0 : Addr) (t1 : Addr) (k0 : ClassId) (k1 : ClassId) (a__VALUES : Addr) (a_ONE : Addr) (a_BATCH : Addr) (a_ONE_path : Addr) (a_BATCH_path : Addr) (a_ONE_path_value : Addr) (a_BATCH_path_value : Addr) (z_COMPACT_STRINGS : Int32) (r_SIOOBE_FORMATTER : Value) (h0 : Heap) (n0 : Nat) (v : Option Value) (h : Heap) (L : List Loc) : Prop := v = some (.int (1 : Int32)) ∧ Fr n0 L ∧ h = h0
set_option maxRecDepth 65536 in
set_option maxHeartbeats 40000000 in
theorem rm_leq3 (l : Launch) (Z : State) (a0 : Array Value) (hw : ∀ d ∈ tables_1, d.before a0 Z = true) (ws : List Jvm.Cond) (t0 : Addr) (t1 : Addr) (k0 : ClassId) (k1 : ClassId) (a__VALUES : Addr) (a_ONE : Addr) (a_BATCH : Addr) (a_ONE_path : Addr) (a_BATCH_path : Addr) (a_ONE_path_value : Addr) (a_BATCH_path_value : Addr) (z_COMPACT_STRINGS : Int32) (r_SIOOBE_FORMATTER : Value) (h0 : Heap) (n0 : Nat) (O0 : Old Z n0 h0) (hE : EV Z a__VALUES a_ONE a_BATCH a_ONE_path a_BATCH_path a_ONE_path_value a_BATCH_path_value z_COMPACT_STRINGS r_SIOOBE_FORMATTER) (P0 : Arv Z h0 t0 k0 .byte (10 : Int32) [(.int (47 : Int32)), (.int (118 : Int32)), (.int (49 : Int32)), (.int (47 : Int32)), (.int (99 : Int32)), (.int (104 : Int32)), (.int (101 : Int32)), (.int (99 : Int32)), (.int (107 : Int32)), (.int (115 : Int32))] (.int (0 : Int32))) (P1 : Arv Z h0 t1 k1 .byte (10 : Int32) [(.int (47 : Int32)), (.int (118 : Int32)), (.int (49 : Int32)), (.int (47 : Int32)), (.int (99 : Int32)), (.int (104 : Int32)), (.int (101 : Int32)), (.int (99 : Int32)), (.int (107 : Int32)), (.int (115 : Int32))] (.int (0 : Int32))) :
    MetFree l own_m4 (head1 (Jvm.Cond.code own_m4 jdk_43_method_13_code 3 (some .boolean) :: ws) ({ frames := 0, cells := 0, slots := 0, locals := 0 } : Room)) (fun a U => a = #[(.ref t0), (.ref t1)] ∧ Z.Warmed39 U.vm ∧ U.heap = h0) (fun _ _ _ _ _ => True) (fun _ U o U' => ∃ v L, o = .returned v ∧ Q_leq3 Z t0 t1 k0 k1 a__VALUES a_ONE a_BATCH a_ONE_path a_BATCH_path a_ONE_path_value a_BATCH_path_value z_COMPACT_STRINGS r_SIOOBE_FORMATTER h0 n0 v U'.heap L ∧ FrameEnd U o U' L ({ frames := 0, cells := 0, slots := 0, locals := 0 } : Room).cells ({ frames := 0, cells := 0, slots := 0, locals := 0 } : Room).slots) := by
  refine MetFree.of_bodySF (plainFor_of_name pn_java_lang_StringLatin1) hisR ?_
  intro p e s m args below meth c s₁ Bd hml0 hP hK
  obtain ⟨rfl, hZ, hh⟩ := hP
  have hx := Bd.exec
  have hby := Bd.bytes
  have hml : c.maxLocals = 3 := hml0
  have hown : s.vm.findClass "java/lang/StringLatin1" = some m.cls := findClass_of_methodNamed Bd.named
  have hnm := (name_of_methodNamed Bd.named Bd.method).1
  have X00 : Stand p l e ({ frames := 0, cells := 0, slots := 0, locals := 0 } : Room) s m #[(.ref t0), (.ref t1)] below meth c s₁ [] 0 0 := Stand.of_body Bd
  have e00 : s₁.heap = h0 := by rw [← hh, Bd.state]; rfl
  have N00 := Fr.nil n0
  refine Classical.byContradiction fun hNG => ?_
  have K00 := Keep.refl h0 []
  have k00 : ∀ t, own_At p e below m s₁ 0 #[.val (.ref t0), .val (.ref t1), .unset] [] t → own_En p e below m s₁ #[(.ref t0), (.ref t1)] 3 t := fun t k => castTop (ef_leq3 m t0 t1 ) k
  obtain ⟨S__VALUES, E__VALUES, S_ONE, E_ONE, S_BATCH, E_BATCH, F_ONE_path, E_ONE_path, F_BATCH_path, E_BATCH_path, F_ONE_path_coder, F_ONE_path_value, F_BATCH_path_coder, F_BATCH_path_value, ne_BATCH_path_ONE_path, S_COMPACT_STRINGS, nz_COMPACT_STRINGS, S_SIOOBE_FORMATTER, iS_SIOOBE_FORMATTER, C__VALUES, C_ONE_path_value, C_BATCH_path_value⟩ := (id hE : EV Z a__VALUES a_ONE a_BATCH a_ONE_path a_BATCH_path a_ONE_path_value a_BATCH_path_value z_COMPACT_STRINGS r_SIOOBE_FORMATTER)
  obtain ⟨kw_ONE_path, Aw_ONE_path⟩ := C_ONE_path_value.arv
  obtain ⟨kw_BATCH_path, Aw_BATCH_path⟩ := C_BATCH_path_value.arv
  obtain ⟨cl10, Ar10, q10, Sz10, Nn10, Hs10, Gf10⟩ := id P0
  obtain ⟨cl11, Ar11, q11, Sz11, Nn11, Hs11, Gf11⟩ := id P1
  obtain ⟨cl12, Ar12, q12, Sz12, Nn12, Hs12, Gf12⟩ := id P0
  obtain ⟨cl13, Ar13, q13, Sz13, Nn13, Hs13, Gf13⟩ := id P0
  have hin14 : ¬ ((0 : Int32) < 0 ∨ cl13.slots.size ≤ ((0 : Int32)).toNatClampNeg) := inb_of Sz13 ⟨by decide, by decide⟩
  have hat15 : cl13.slots[((0 : Int32)).toNatClampNeg]? = some (.int (47 : Int32)) := Hs13.at hin14 rfl
  obtain ⟨cl16, Ar16, q16, Sz16, Nn16, Hs16, Gf16⟩ := id P1
  have hin17 : ¬ ((0 : Int32) < 0 ∨ cl16.slots.size ≤ ((0 : Int32)).toNatClampNeg) := inb_of Sz16 ⟨by decide, by decide⟩
  have hat18 : cl16.slots[((0 : Int32)).toNatClampNeg]? = some (.int (47 : Int32)) := Hs16.at hin17 rfl
  obtain ⟨cl19, Ar19, q19, Sz19, Nn19, Hs19, Gf19⟩ := id P0
  obtain ⟨cl20, Ar20, q20, Sz20, Nn20, Hs20, Gf20⟩ := id P0
  have hin21 : ¬ ((1 : Int32) < 0 ∨ cl20.slots.size ≤ ((1 : Int32)).toNatClampNeg) := inb_of Sz20 ⟨by decide, by decide⟩
  have hat22 : cl20.slots[((1 : Int32)).toNatClampNeg]? = some (.int (118 : Int32)) := Hs20.at hin21 rfl
  obtain ⟨cl23, Ar23, q23, Sz23, Nn23, Hs23, Gf23⟩ := id P1
  have hin24 : ¬ ((1 : Int32) < 0 ∨ cl23.slots.size ≤ ((1 : Int32)).toNatClampNeg) := inb_of Sz23 ⟨by decide, by decide⟩
  have hat25 : cl23.slots[((1 : Int32)).toNatClampNeg]? = some (.int (118 : Int32)) := Hs23.at hin24 rfl
  obtain ⟨cl26, Ar26, q26, Sz26, Nn26, Hs26, Gf26⟩ := id P0
  obtain ⟨cl27, Ar27, q27, Sz27, Nn27, Hs27, Gf27⟩ := id P0
  have hin28 : ¬ ((2 : Int32) < 0 ∨ cl27.slots.size ≤ ((2 : Int32)).toNatClampNeg) := inb_of Sz27 ⟨by decide, by decide⟩
  have hat29 : cl27.slots[((2 : Int32)).toNatClampNeg]? = some (.int (49 : Int32)) := Hs27.at hin28 rfl
  obtain ⟨cl30, Ar30, q30, Sz30, Nn30, Hs30, Gf30⟩ := id P1
  have hin31 : ¬ ((2 : Int32) < 0 ∨ cl30.slots.size ≤ ((2 : Int32)).toNatClampNeg) := inb_of Sz30 ⟨by decide, by decide⟩
  have hat32 : cl30.slots[((2 : Int32)).toNatClampNeg]? = some (.int (49 : Int32)) := Hs30.at hin31 rfl
  obtain ⟨cl33, Ar33, q33, Sz33, Nn33, Hs33, Gf33⟩ := id P0
  obtain ⟨cl34, Ar34, q34, Sz34, Nn34, Hs34, Gf34⟩ := id P0
  have hin35 : ¬ ((3 : Int32) < 0 ∨ cl34.slots.size ≤ ((3 : Int32)).toNatClampNeg) := inb_of Sz34 ⟨by decide, by decide⟩
  have hat36 : cl34.slots[((3 : Int32)).toNatClampNeg]? = some (.int (47 : Int32)) := Hs34.at hin35 rfl
  obtain ⟨cl37, Ar37, q37, Sz37, Nn37, Hs37, Gf37⟩ := id P1
  have hin38 : ¬ ((3 : Int32) < 0 ∨ cl37.slots.size ≤ ((3 : Int32)).toNatClampNeg) := inb_of Sz37 ⟨by decide, by decide⟩
  have hat39 : cl37.slots[((3 : Int32)).toNatClampNeg]? = some (.int (47 : Int32)) := Hs37.at hin38 rfl
  obtain ⟨cl40, Ar40, q40, Sz40, Nn40, Hs40, Gf40⟩ := id P0
  obtain ⟨cl41, Ar41, q41, Sz41, Nn41, Hs41, Gf41⟩ := id P0
  have hin42 : ¬ ((4 : Int32) < 0 ∨ cl41.slots.size ≤ ((4 : Int32)).toNatClampNeg) := inb_of Sz41 ⟨by decide, by decide⟩
  have hat43 : cl41.slots[((4 : Int32)).toNatClampNeg]? = some (.int (99 : Int32)) := Hs41.at hin42 rfl
  obtain ⟨cl44, Ar44, q44, Sz44, Nn44, Hs44, Gf44⟩ := id P1
  have hin45 : ¬ ((4 : Int32) < 0 ∨ cl44.slots.size ≤ ((4 : Int32)).toNatClampNeg) := inb_of Sz44 ⟨by decide, by decide⟩
  have hat46 : cl44.slots[((4 : Int32)).toNatClampNeg]? = some (.int (99 : Int32)) := Hs44.at hin45 rfl
  obtain ⟨cl47, Ar47, q47, Sz47, Nn47, Hs47, Gf47⟩ := id P0
  obtain ⟨cl48, Ar48, q48, Sz48, Nn48, Hs48, Gf48⟩ := id P0
  have hin49 : ¬ ((5 : Int32) < 0 ∨ cl48.slots.size ≤ ((5 : Int32)).toNatClampNeg) := inb_of Sz48 ⟨by decide, by decide⟩
  have hat50 : cl48.slots[((5 : Int32)).toNatClampNeg]? = some (.int (104 : Int32)) := Hs48.at hin49 rfl
  obtain ⟨cl51, Ar51, q51, Sz51, Nn51, Hs51, Gf51⟩ := id P1
  have hin52 : ¬ ((5 : Int32) < 0 ∨ cl51.slots.size ≤ ((5 : Int32)).toNatClampNeg) := inb_of Sz51 ⟨by decide, by decide⟩
  have hat53 : cl51.slots[((5 : Int32)).toNatClampNeg]? = some (.int (104 : Int32)) := Hs51.at hin52 rfl
  obtain ⟨cl54, Ar54, q54, Sz54, Nn54, Hs54, Gf54⟩ := id P0
  obtain ⟨cl55, Ar55, q55, Sz55, Nn55, Hs55, Gf55⟩ := id P0
  have hin56 : ¬ ((6 : Int32) < 0 ∨ cl55.slots.size ≤ ((6 : Int32)).toNatClampNeg) := inb_of Sz55 ⟨by decide, by decide⟩
  have hat57 : cl55.slots[((6 : Int32)).toNatClampNeg]? = some (.int (101 : Int32)) := Hs55.at hin56 rfl
  obtain ⟨cl58, Ar58, q58, Sz58, Nn58, Hs58, Gf58⟩ := id P1
  have hin59 : ¬ ((6 : Int32) < 0 ∨ cl58.slots.size ≤ ((6 : Int32)).toNatClampNeg) := inb_of Sz58 ⟨by decide, by decide⟩
  have hat60 : cl58.slots[((6 : Int32)).toNatClampNeg]? = some (.int (101 : Int32)) := Hs58.at hin59 rfl
  obtain ⟨cl61, Ar61, q61, Sz61, Nn61, Hs61, Gf61⟩ := id P0
  obtain ⟨cl62, Ar62, q62, Sz62, Nn62, Hs62, Gf62⟩ := id P0
  have hin63 : ¬ ((7 : Int32) < 0 ∨ cl62.slots.size ≤ ((7 : Int32)).toNatClampNeg) := inb_of Sz62 ⟨by decide, by decide⟩
  have hat64 : cl62.slots[((7 : Int32)).toNatClampNeg]? = some (.int (99 : Int32)) := Hs62.at hin63 rfl
  obtain ⟨cl65, Ar65, q65, Sz65, Nn65, Hs65, Gf65⟩ := id P1
  have hin66 : ¬ ((7 : Int32) < 0 ∨ cl65.slots.size ≤ ((7 : Int32)).toNatClampNeg) := inb_of Sz65 ⟨by decide, by decide⟩
  have hat67 : cl65.slots[((7 : Int32)).toNatClampNeg]? = some (.int (99 : Int32)) := Hs65.at hin66 rfl
  obtain ⟨cl68, Ar68, q68, Sz68, Nn68, Hs68, Gf68⟩ := id P0
  obtain ⟨cl69, Ar69, q69, Sz69, Nn69, Hs69, Gf69⟩ := id P0
  have hin70 : ¬ ((8 : Int32) < 0 ∨ cl69.slots.size ≤ ((8 : Int32)).toNatClampNeg) := inb_of Sz69 ⟨by decide, by decide⟩
  have hat71 : cl69.slots[((8 : Int32)).toNatClampNeg]? = some (.int (107 : Int32)) := Hs69.at hin70 rfl
  obtain ⟨cl72, Ar72, q72, Sz72, Nn72, Hs72, Gf72⟩ := id P1
  have hin73 : ¬ ((8 : Int32) < 0 ∨ cl72.slots.size ≤ ((8 : Int32)).toNatClampNeg) := inb_of Sz72 ⟨by decide, by decide⟩
  have hat74 : cl72.slots[((8 : Int32)).toNatClampNeg]? = some (.int (107 : Int32)) := Hs72.at hin73 rfl
  obtain ⟨cl75, Ar75, q75, Sz75, Nn75, Hs75, Gf75⟩ := id P0
  obtain ⟨cl76, Ar76, q76, Sz76, Nn76, Hs76, Gf76⟩ := id P0
  have hin77 : ¬ ((9 : Int32) < 0 ∨ cl76.slots.size ≤ ((9 : Int32)).toNatClampNeg) := inb_of Sz76 ⟨by decide, by decide⟩
  have hat78 : cl76.slots[((9 : Int32)).toNatClampNeg]? = some (.int (115 : Int32)) := Hs76.at hin77 rfl
  obtain ⟨cl79, Ar79, q79, Sz79, Nn79, Hs79, Gf79⟩ := id P1
  have hin80 : ¬ ((9 : Int32) < 0 ∨ cl79.slots.size ≤ ((9 : Int32)).toNatClampNeg) := inb_of Sz79 ⟨by decide, by decide⟩
  have hat81 : cl79.slots[((9 : Int32)).toNatClampNeg]? = some (.int (115 : Int32)) := Hs79.at hin80 rfl
  obtain ⟨cl82, Ar82, q82, Sz82, Nn82, Hs82, Gf82⟩ := id P0
  have k83 : ∀ t, own_At p e below m s₁ 33 #[.val (.ref t0), .val (.ref t1), .val (.int (10 : Int32))] [(.int (1 : Int32))] t → own_En p e below m s₁ #[(.ref t0), (.ref t1)] 3 t := by
    intro t k
    refine k00 t ?_
    refine XS.aloadN X00.here hx rfl (hb hby d_jdk_43_method_13_code_0) rfl rfl ?_
    show own_At p e below m s₁ 1 #[.val (.ref t0), .val (.ref t1), .unset] [(.ref t0)] t
    refine X00.arraylength hx (by rw [e00]; exact Ar10.1) (State.isArrayOf_alike hZ.alike Ar10.2.1) (g := (mkF m 1 #[.val (.ref t0), .val (.ref t1), .unset] [(.ref t0)])) rfl rfl (hb hby d_jdk_43_method_13_code_1) _ ?_
    rw [len_of Sz10 Nn10]
    show own_At p e below m s₁ 2 #[.val (.ref t0), .val (.ref t1), .unset] [(.int (10 : Int32))] t
    refine XS.aloadN X00.here hx rfl (hb hby d_jdk_43_method_13_code_2) rfl rfl ?_
    show own_At p e below m s₁ 3 #[.val (.ref t0), .val (.ref t1), .unset] [(.ref t1), (.int (10 : Int32))] t
    refine X00.arraylength hx (by rw [e00]; exact Ar11.1) (State.isArrayOf_alike hZ.alike Ar11.2.1) (g := (mkF m 3 #[.val (.ref t0), .val (.ref t1), .unset] [(.ref t1), (.int (10 : Int32))])) rfl rfl (hb hby d_jdk_43_method_13_code_3) _ ?_
    rw [len_of Sz11 Nn11]
    show own_At p e below m s₁ 4 #[.val (.ref t0), .val (.ref t1), .unset] [(.int (10 : Int32)), (.int (10 : Int32))] t
    refine XS.icmpNo X00.here hx rfl (hb hby d_jdk_43_method_13_code_4) rfl (teq (by decide : (10 : Int32) = (10 : Int32))).2 ?_
    show own_At p e below m s₁ 7 #[.val (.ref t0), .val (.ref t1), .unset] [] t
    refine XS.iconst X00.here hx rfl (hb hby d_jdk_43_method_13_code_7) ?_
    show own_At p e below m s₁ 8 #[.val (.ref t0), .val (.ref t1), .unset] [(.int (0 : Int32))] t
    refine XS.istoreN X00.here hx rfl (hb hby d_jdk_43_method_13_code_8) rfl (l' := #[.val (.ref t0), .val (.ref t1), .val (.int (0 : Int32))]) rfl ?_
    show own_At p e below m s₁ 9 #[.val (.ref t0), .val (.ref t1), .val (.int (0 : Int32))] [] t
    refine XS.iloadN X00.here hx rfl (hb hby d_jdk_43_method_13_code_9) rfl ?_
    show own_At p e below m s₁ 10 #[.val (.ref t0), .val (.ref t1), .val (.int (0 : Int32))] [(.int (0 : Int32))] t
    refine XS.aloadN X00.here hx rfl (hb hby d_jdk_43_method_13_code_10) rfl rfl ?_
    show own_At p e below m s₁ 11 #[.val (.ref t0), .val (.ref t1), .val (.int (0 : Int32))] [(.ref t0), (.int (0 : Int32))] t
    refine X00.arraylength hx (by rw [e00]; exact Ar12.1) (State.isArrayOf_alike hZ.alike Ar12.2.1) (g := (mkF m 11 #[.val (.ref t0), .val (.ref t1), .val (.int (0 : Int32))] [(.ref t0), (.int (0 : Int32))])) rfl rfl (hb hby d_jdk_43_method_13_code_11) _ ?_
    rw [len_of Sz12 Nn12]
    show own_At p e below m s₁ 12 #[.val (.ref t0), .val (.ref t1), .val (.int (0 : Int32))] [(.int (10 : Int32)), (.int (0 : Int32))] t
    refine XS.icmpNo X00.here hx rfl (hb hby d_jdk_43_method_13_code_12) rfl (tlt (by decide : (0 : Int32) < (10 : Int32))).2.1 ?_
    show own_At p e below m s₁ 15 #[.val (.ref t0), .val (.ref t1), .val (.int (0 : Int32))] [] t
    refine XS.aloadN X00.here hx rfl (hb hby d_jdk_43_method_13_code_15) rfl rfl ?_
    show own_At p e below m s₁ 16 #[.val (.ref t0), .val (.ref t1), .val (.int (0 : Int32))] [(.ref t0)] t
    refine XS.iloadN X00.here hx rfl (hb hby d_jdk_43_method_13_code_16) rfl ?_
    show own_At p e below m s₁ 17 #[.val (.ref t0), .val (.ref t1), .val (.int (0 : Int32))] [(.int (0 : Int32)), (.ref t0)] t
    refine X00.baloadBytes hx (j := (0 : Int32)) (v := (.int (47 : Int32))) (by rw [e00]; exact Ar13.1) (State.isArrayOf_alike hZ.alike Ar13.2.1) Ar13.2.2 hin14 hat15 (g := (mkF m 17 #[.val (.ref t0), .val (.ref t1), .val (.int (0 : Int32))] [(.int (0 : Int32)), (.ref t0)])) rfl rfl (hb hby d_jdk_43_method_13_code_17) _ ?_
    show own_At p e below m s₁ 18 #[.val (.ref t0), .val (.ref t1), .val (.int (0 : Int32))] [(.int (47 : Int32))] t
    refine XS.aloadN X00.here hx rfl (hb hby d_jdk_43_method_13_code_18) rfl rfl ?_
    show own_At p e below m s₁ 19 #[.val (.ref t0), .val (.ref t1), .val (.int (0 : Int32))] [(.ref t1), (.int (47 : Int32))] t
    refine XS.iloadN X00.here hx rfl (hb hby d_jdk_43_method_13_code_19) rfl ?_
    show own_At p e below m s₁ 20 #[.val (.ref t0), .val (.ref t1), .val (.int (0 : Int32))] [(.int (0 : Int32)), (.ref t1), (.int (47 : Int32))] t
    refine X00.baloadBytes hx (j := (0 : Int32)) (v := (.int (47 : Int32))) (by rw [e00]; exact Ar16.1) (State.isArrayOf_alike hZ.alike Ar16.2.1) Ar16.2.2 hin17 hat18 (g := (mkF m 20 #[.val (.ref t0), .val (.ref t1), .val (.int (0 : Int32))] [(.int (0 : Int32)), (.ref t1), (.int (47 : Int32))])) rfl rfl (hb hby d_jdk_43_method_13_code_20) _ ?_
    show own_At p e below m s₁ 21 #[.val (.ref t0), .val (.ref t1), .val (.int (0 : Int32))] [(.int (47 : Int32)), (.int (47 : Int32))] t
    refine XS.icmpYes X00.here hx rfl (pc0 := 21) (pc' := 26) rfl (hb hby d_jdk_43_method_13_code_21) rfl (teq (by decide : (47 : Int32) = (47 : Int32))).1 (by decide) (by decide) ?_
    show own_At p e below m s₁ 26 #[.val (.ref t0), .val (.ref t1), .val (.int (0 : Int32))] [] t
    refine XS.iinc X00.here hx rfl (hb hby d_jdk_43_method_13_code_26) rfl (l' := #[.val (.ref t0), .val (.ref t1), .val (.int ((0 : Int32) + (1 : Int32)))]) rfl ?_
    show own_At p e below m s₁ 29 #[.val (.ref t0), .val (.ref t1), .val (.int ((0 : Int32) + (1 : Int32)))] [] t
    rw [show ((0 : Int32) + (1 : Int32)) = (1 : Int32) from by decide]
    show own_At p e below m s₁ 29 #[.val (.ref t0), .val (.ref t1), .val (.int (1 : Int32))] [] t
    refine XS.goto X00.here hx rfl (pc0 := 29) (pc' := 9) rfl (hb hby d_jdk_43_method_13_code_29) (by decide) (by decide) ?_
    show own_At p e below m s₁ 9 #[.val (.ref t0), .val (.ref t1), .val (.int (1 : Int32))] [] t
    refine XS.iloadN X00.here hx rfl (hb hby d_jdk_43_method_13_code_9) rfl ?_
    show own_At p e below m s₁ 10 #[.val (.ref t0), .val (.ref t1), .val (.int (1 : Int32))] [(.int (1 : Int32))] t
    refine XS.aloadN X00.here hx rfl (hb hby d_jdk_43_method_13_code_10) rfl rfl ?_
    show own_At p e below m s₁ 11 #[.val (.ref t0), .val (.ref t1), .val (.int (1 : Int32))] [(.ref t0), (.int (1 : Int32))] t
    refine X00.arraylength hx (by rw [e00]; exact Ar19.1) (State.isArrayOf_alike hZ.alike Ar19.2.1) (g := (mkF m 11 #[.val (.ref t0), .val (.ref t1), .val (.int (1 : Int32))] [(.ref t0), (.int (1 : Int32))])) rfl rfl (hb hby d_jdk_43_method_13_code_11) _ ?_
    rw [len_of Sz19 Nn19]
    show own_At p e below m s₁ 12 #[.val (.ref t0), .val (.ref t1), .val (.int (1 : Int32))] [(.int (10 : Int32)), (.int (1 : Int32))] t
    refine XS.icmpNo X00.here hx rfl (hb hby d_jdk_43_method_13_code_12) rfl (tlt (by decide : (1 : Int32) < (10 : Int32))).2.1 ?_
    show own_At p e below m s₁ 15 #[.val (.ref t0), .val (.ref t1), .val (.int (1 : Int32))] [] t
    refine XS.aloadN X00.here hx rfl (hb hby d_jdk_43_method_13_code_15) rfl rfl ?_
    show own_At p e below m s₁ 16 #[.val (.ref t0), .val (.ref t1), .val (.int (1 : Int32))] [(.ref t0)] t
    refine XS.iloadN X00.here hx rfl (hb hby d_jdk_43_method_13_code_16) rfl ?_
    show own_At p e below m s₁ 17 #[.val (.ref t0), .val (.ref t1), .val (.int (1 : Int32))] [(.int (1 : Int32)), (.ref t0)] t
    refine X00.baloadBytes hx (j := (1 : Int32)) (v := (.int (118 : Int32))) (by rw [e00]; exact Ar20.1) (State.isArrayOf_alike hZ.alike Ar20.2.1) Ar20.2.2 hin21 hat22 (g := (mkF m 17 #[.val (.ref t0), .val (.ref t1), .val (.int (1 : Int32))] [(.int (1 : Int32)), (.ref t0)])) rfl rfl (hb hby d_jdk_43_method_13_code_17) _ ?_
    show own_At p e below m s₁ 18 #[.val (.ref t0), .val (.ref t1), .val (.int (1 : Int32))] [(.int (118 : Int32))] t
    refine XS.aloadN X00.here hx rfl (hb hby d_jdk_43_method_13_code_18) rfl rfl ?_
    show own_At p e below m s₁ 19 #[.val (.ref t0), .val (.ref t1), .val (.int (1 : Int32))] [(.ref t1), (.int (118 : Int32))] t
    refine XS.iloadN X00.here hx rfl (hb hby d_jdk_43_method_13_code_19) rfl ?_
    show own_At p e below m s₁ 20 #[.val (.ref t0), .val (.ref t1), .val (.int (1 : Int32))] [(.int (1 : Int32)), (.ref t1), (.int (118 : Int32))] t
    refine X00.baloadBytes hx (j := (1 : Int32)) (v := (.int (118 : Int32))) (by rw [e00]; exact Ar23.1) (State.isArrayOf_alike hZ.alike Ar23.2.1) Ar23.2.2 hin24 hat25 (g := (mkF m 20 #[.val (.ref t0), .val (.ref t1), .val (.int (1 : Int32))] [(.int (1 : Int32)), (.ref t1), (.int (118 : Int32))])) rfl rfl (hb hby d_jdk_43_method_13_code_20) _ ?_
    show own_At p e below m s₁ 21 #[.val (.ref t0), .val (.ref t1), .val (.int (1 : Int32))] [(.int (118 : Int32)), (.int (118 : Int32))] t
    refine XS.icmpYes X00.here hx rfl (pc0 := 21) (pc' := 26) rfl (hb hby d_jdk_43_method_13_code_21) rfl (teq (by decide : (118 : Int32) = (118 : Int32))).1 (by decide) (by decide) ?_
    show own_At p e below m s₁ 26 #[.val (.ref t0), .val (.ref t1), .val (.int (1 : Int32))] [] t
    refine XS.iinc X00.here hx rfl (hb hby d_jdk_43_method_13_code_26) rfl (l' := #[.val (.ref t0), .val (.ref t1), .val (.int ((1 : Int32) + (1 : Int32)))]) rfl ?_
    show own_At p e below m s₁ 29 #[.val (.ref t0), .val (.ref t1), .val (.int ((1 : Int32) + (1 : Int32)))] [] t
    rw [show ((1 : Int32) + (1 : Int32)) = (2 : Int32) from by decide]
    show own_At p e below m s₁ 29 #[.val (.ref t0), .val (.ref t1), .val (.int (2 : Int32))] [] t
    refine XS.goto X00.here hx rfl (pc0 := 29) (pc' := 9) rfl (hb hby d_jdk_43_method_13_code_29) (by decide) (by decide) ?_
    show own_At p e below m s₁ 9 #[.val (.ref t0), .val (.ref t1), .val (.int (2 : Int32))] [] t
    refine XS.iloadN X00.here hx rfl (hb hby d_jdk_43_method_13_code_9) rfl ?_
    show own_At p e below m s₁ 10 #[.val (.ref t0), .val (.ref t1), .val (.int (2 : Int32))] [(.int (2 : Int32))] t
    refine XS.aloadN X00.here hx rfl (hb hby d_jdk_43_method_13_code_10) rfl rfl ?_
    show own_At p e below m s₁ 11 #[.val (.ref t0), .val (.ref t1), .val (.int (2 : Int32))] [(.ref t0), (.int (2 : Int32))] t
    refine X00.arraylength hx (by rw [e00]; exact Ar26.1) (State.isArrayOf_alike hZ.alike Ar26.2.1) (g := (mkF m 11 #[.val (.ref t0), .val (.ref t1), .val (.int (2 : Int32))] [(.ref t0), (.int (2 : Int32))])) rfl rfl (hb hby d_jdk_43_method_13_code_11) _ ?_
    rw [len_of Sz26 Nn26]
    show own_At p e below m s₁ 12 #[.val (.ref t0), .val (.ref t1), .val (.int (2 : Int32))] [(.int (10 : Int32)), (.int (2 : Int32))] t
    refine XS.icmpNo X00.here hx rfl (hb hby d_jdk_43_method_13_code_12) rfl (tlt (by decide : (2 : Int32) < (10 : Int32))).2.1 ?_
    show own_At p e below m s₁ 15 #[.val (.ref t0), .val (.ref t1), .val (.int (2 : Int32))] [] t
    refine XS.aloadN X00.here hx rfl (hb hby d_jdk_43_method_13_code_15) rfl rfl ?_
    show own_At p e below m s₁ 16 #[.val (.ref t0), .val (.ref t1), .val (.int (2 : Int32))] [(.ref t0)] t
    refine XS.iloadN X00.here hx rfl (hb hby d_jdk_43_method_13_code_16) rfl ?_
    show own_At p e below m s₁ 17 #[.val (.ref t0), .val (.ref t1), .val (.int (2 : Int32))] [(.int (2 : Int32)), (.ref t0)] t
    refine X00.baloadBytes hx (j := (2 : Int32)) (v := (.int (49 : Int32))) (by rw [e00]; exact Ar27.1) (State.isArrayOf_alike hZ.alike Ar27.2.1) Ar27.2.2 hin28 hat29 (g := (mkF m 17 #[.val (.ref t0), .val (.ref t1), .val (.int (2 : Int32))] [(.int (2 : Int32)), (.ref t0)])) rfl rfl (hb hby d_jdk_43_method_13_code_17) _ ?_
    show own_At p e below m s₁ 18 #[.val (.ref t0), .val (.ref t1), .val (.int (2 : Int32))] [(.int (49 : Int32))] t
    refine XS.aloadN X00.here hx rfl (hb hby d_jdk_43_method_13_code_18) rfl rfl ?_
    show own_At p e below m s₁ 19 #[.val (.ref t0), .val (.ref t1), .val (.int (2 : Int32))] [(.ref t1), (.int (49 : Int32))] t
    refine XS.iloadN X00.here hx rfl (hb hby d_jdk_43_method_13_code_19) rfl ?_
    show own_At p e below m s₁ 20 #[.val (.ref t0), .val (.ref t1), .val (.int (2 : Int32))] [(.int (2 : Int32)), (.ref t1), (.int (49 : Int32))] t
    refine X00.baloadBytes hx (j := (2 : Int32)) (v := (.int (49 : Int32))) (by rw [e00]; exact Ar30.1) (State.isArrayOf_alike hZ.alike Ar30.2.1) Ar30.2.2 hin31 hat32 (g := (mkF m 20 #[.val (.ref t0), .val (.ref t1), .val (.int (2 : Int32))] [(.int (2 : Int32)), (.ref t1), (.int (49 : Int32))])) rfl rfl (hb hby d_jdk_43_method_13_code_20) _ ?_
    show own_At p e below m s₁ 21 #[.val (.ref t0), .val (.ref t1), .val (.int (2 : Int32))] [(.int (49 : Int32)), (.int (49 : Int32))] t
    refine XS.icmpYes X00.here hx rfl (pc0 := 21) (pc' := 26) rfl (hb hby d_jdk_43_method_13_code_21) rfl (teq (by decide : (49 : Int32) = (49 : Int32))).1 (by decide) (by decide) ?_
    show own_At p e below m s₁ 26 #[.val (.ref t0), .val (.ref t1), .val (.int (2 : Int32))] [] t
    refine XS.iinc X00.here hx rfl (hb hby d_jdk_43_method_13_code_26) rfl (l' := #[.val (.ref t0), .val (.ref t1), .val (.int ((2 : Int32) + (1 : Int32)))]) rfl ?_
    show own_At p e below m s₁ 29 #[.val (.ref t0), .val (.ref t1), .val (.int ((2 : Int32) + (1 : Int32)))] [] t
    rw [show ((2 : Int32) + (1 : Int32)) = (3 : Int32) from by decide]
    show own_At p e below m s₁ 29 #[.val (.ref t0), .val (.ref t1), .val (.int (3 : Int32))] [] t
    refine XS.goto X00.here hx rfl (pc0 := 29) (pc' := 9) rfl (hb hby d_jdk_43_method_13_code_29) (by decide) (by decide) ?_
    show own_At p e below m s₁ 9 #[.val (.ref t0), .val (.ref t1), .val (.int (3 : Int32))] [] t
    refine XS.iloadN X00.here hx rfl (hb hby d_jdk_43_method_13_code_9) rfl ?_
    show own_At p e below m s₁ 10 #[.val (.ref t0), .val (.ref t1), .val (.int (3 : Int32))] [(.int (3 : Int32))] t
    refine XS.aloadN X00.here hx rfl (hb hby d_jdk_43_method_13_code_10) rfl rfl ?_
    show own_At p e below m s₁ 11 #[.val (.ref t0), .val (.ref t1), .val (.int (3 : Int32))] [(.ref t0), (.int (3 : Int32))] t
    refine X00.arraylength hx (by rw [e00]; exact Ar33.1) (State.isArrayOf_alike hZ.alike Ar33.2.1) (g := (mkF m 11 #[.val (.ref t0), .val (.ref t1), .val (.int (3 : Int32))] [(.ref t0), (.int (3 : Int32))])) rfl rfl (hb hby d_jdk_43_method_13_code_11) _ ?_
    rw [len_of Sz33 Nn33]
    show own_At p e below m s₁ 12 #[.val (.ref t0), .val (.ref t1), .val (.int (3 : Int32))] [(.int (10 : Int32)), (.int (3 : Int32))] t
    refine XS.icmpNo X00.here hx rfl (hb hby d_jdk_43_method_13_code_12) rfl (tlt (by decide : (3 : Int32) < (10 : Int32))).2.1 ?_
    show own_At p e below m s₁ 15 #[.val (.ref t0), .val (.ref t1), .val (.int (3 : Int32))] [] t
    refine XS.aloadN X00.here hx rfl (hb hby d_jdk_43_method_13_code_15) rfl rfl ?_
    show own_At p e below m s₁ 16 #[.val (.ref t0), .val (.ref t1), .val (.int (3 : Int32))] [(.ref t0)] t
    refine XS.iloadN X00.here hx rfl (hb hby d_jdk_43_method_13_code_16) rfl ?_
    show own_At p e below m s₁ 17 #[.val (.ref t0), .val (.ref t1), .val (.int (3 : Int32))] [(.int (3 : Int32)), (.ref t0)] t
    refine X00.baloadBytes hx (j := (3 : Int32)) (v := (.int (47 : Int32))) (by rw [e00]; exact Ar34.1) (State.isArrayOf_alike hZ.alike Ar34.2.1) Ar34.2.2 hin35 hat36 (g := (mkF m 17 #[.val (.ref t0), .val (.ref t1), .val (.int (3 : Int32))] [(.int (3 : Int32)), (.ref t0)])) rfl rfl (hb hby d_jdk_43_method_13_code_17) _ ?_
    show own_At p e below m s₁ 18 #[.val (.ref t0), .val (.ref t1), .val (.int (3 : Int32))] [(.int (47 : Int32))] t
    refine XS.aloadN X00.here hx rfl (hb hby d_jdk_43_method_13_code_18) rfl rfl ?_
    show own_At p e below m s₁ 19 #[.val (.ref t0), .val (.ref t1), .val (.int (3 : Int32))] [(.ref t1), (.int (47 : Int32))] t
    refine XS.iloadN X00.here hx rfl (hb hby d_jdk_43_method_13_code_19) rfl ?_
    show own_At p e below m s₁ 20 #[.val (.ref t0), .val (.ref t1), .val (.int (3 : Int32))] [(.int (3 : Int32)), (.ref t1), (.int (47 : Int32))] t
    refine X00.baloadBytes hx (j := (3 : Int32)) (v := (.int (47 : Int32))) (by rw [e00]; exact Ar37.1) (State.isArrayOf_alike hZ.alike Ar37.2.1) Ar37.2.2 hin38 hat39 (g := (mkF m 20 #[.val (.ref t0), .val (.ref t1), .val (.int (3 : Int32))] [(.int (3 : Int32)), (.ref t1), (.int (47 : Int32))])) rfl rfl (hb hby d_jdk_43_method_13_code_20) _ ?_
    show own_At p e below m s₁ 21 #[.val (.ref t0), .val (.ref t1), .val (.int (3 : Int32))] [(.int (47 : Int32)), (.int (47 : Int32))] t
    refine XS.icmpYes X00.here hx rfl (pc0 := 21) (pc' := 26) rfl (hb hby d_jdk_43_method_13_code_21) rfl (teq (by decide : (47 : Int32) = (47 : Int32))).1 (by decide) (by decide) ?_
    show own_At p e below m s₁ 26 #[.val (.ref t0), .val (.ref t1), .val (.int (3 : Int32))] [] t
    refine XS.iinc X00.here hx rfl (hb hby d_jdk_43_method_13_code_26) rfl (l' := #[.val (.ref t0), .val (.ref t1), .val (.int ((3 : Int32) + (1 : Int32)))]) rfl ?_
    show own_At p e below m s₁ 29 #[.val (.ref t0), .val (.ref t1), .val (.int ((3 : Int32) + (1 : Int32)))] [] t
    rw [show ((3 : Int32) + (1 : Int32)) = (4 : Int32) from by decide]
    show own_At p e below m s₁ 29 #[.val (.ref t0), .val (.ref t1), .val (.int (4 : Int32))] [] t
    refine XS.goto X00.here hx rfl (pc0 := 29) (pc' := 9) rfl (hb hby d_jdk_43_method_13_code_29) (by decide) (by decide) ?_
    show own_At p e below m s₁ 9 #[.val (.ref t0), .val (.ref t1), .val (.int (4 : Int32))] [] t
    refine XS.iloadN X00.here hx rfl (hb hby d_jdk_43_method_13_code_9) rfl ?_
    show own_At p e below m s₁ 10 #[.val (.ref t0), .val (.ref t1), .val (.int (4 : Int32))] [(.int (4 : Int32))] t
    refine XS.aloadN X00.here hx rfl (hb hby d_jdk_43_method_13_code_10) rfl rfl ?_
    show own_At p e below m s₁ 11 #[.val (.ref t0), .val (.ref t1), .val (.int (4 : Int32))] [(.ref t0), (.int (4 : Int32))] t
    refine X00.arraylength hx (by rw [e00]; exact Ar40.1) (State.isArrayOf_alike hZ.alike Ar40.2.1) (g := (mkF m 11 #[.val (.ref t0), .val (.ref t1), .val (.int (4 : Int32))] [(.ref t0), (.int (4 : Int32))])) rfl rfl (hb hby d_jdk_43_method_13_code_11) _ ?_
    rw [len_of Sz40 Nn40]
    show own_At p e below m s₁ 12 #[.val (.ref t0), .val (.ref t1), .val (.int (4 : Int32))] [(.int (10 : Int32)), (.int (4 : Int32))] t
    refine XS.icmpNo X00.here hx rfl (hb hby d_jdk_43_method_13_code_12) rfl (tlt (by decide : (4 : Int32) < (10 : Int32))).2.1 ?_
    show own_At p e below m s₁ 15 #[.val (.ref t0), .val (.ref t1), .val (.int (4 : Int32))] [] t
    refine XS.aloadN X00.here hx rfl (hb hby d_jdk_43_method_13_code_15) rfl rfl ?_
    show own_At p e below m s₁ 16 #[.val (.ref t0), .val (.ref t1), .val (.int (4 : Int32))] [(.ref t0)] t
    refine XS.iloadN X00.here hx rfl (hb hby d_jdk_43_method_13_code_16) rfl ?_
    show own_At p e below m s₁ 17 #[.val (.ref t0), .val (.ref t1), .val (.int (4 : Int32))] [(.int (4 : Int32)), (.ref t0)] t
    refine X00.baloadBytes hx (j := (4 : Int32)) (v := (.int (99 : Int32))) (by rw [e00]; exact Ar41.1) (State.isArrayOf_alike hZ.alike Ar41.2.1) Ar41.2.2 hin42 hat43 (g := (mkF m 17 #[.val (.ref t0), .val (.ref t1), .val (.int (4 : Int32))] [(.int (4 : Int32)), (.ref t0)])) rfl rfl (hb hby d_jdk_43_method_13_code_17) _ ?_
    show own_At p e below m s₁ 18 #[.val (.ref t0), .val (.ref t1), .val (.int (4 : Int32))] [(.int (99 : Int32))] t
    refine XS.aloadN X00.here hx rfl (hb hby d_jdk_43_method_13_code_18) rfl rfl ?_
    show own_At p e below m s₁ 19 #[.val (.ref t0), .val (.ref t1), .val (.int (4 : Int32))] [(.ref t1), (.int (99 : Int32))] t
    refine XS.iloadN X00.here hx rfl (hb hby d_jdk_43_method_13_code_19) rfl ?_
    show own_At p e below m s₁ 20 #[.val (.ref t0), .val (.ref t1), .val (.int (4 : Int32))] [(.int (4 : Int32)), (.ref t1), (.int (99 : Int32))] t
    refine X00.baloadBytes hx (j := (4 : Int32)) (v := (.int (99 : Int32))) (by rw [e00]; exact Ar44.1) (State.isArrayOf_alike hZ.alike Ar44.2.1) Ar44.2.2 hin45 hat46 (g := (mkF m 20 #[.val (.ref t0), .val (.ref t1), .val (.int (4 : Int32))] [(.int (4 : Int32)), (.ref t1), (.int (99 : Int32))])) rfl rfl (hb hby d_jdk_43_method_13_code_20) _ ?_
    show own_At p e below m s₁ 21 #[.val (.ref t0), .val (.ref t1), .val (.int (4 : Int32))] [(.int (99 : Int32)), (.int (99 : Int32))] t
    refine XS.icmpYes X00.here hx rfl (pc0 := 21) (pc' := 26) rfl (hb hby d_jdk_43_method_13_code_21) rfl (teq (by decide : (99 : Int32) = (99 : Int32))).1 (by decide) (by decide) ?_
    show own_At p e below m s₁ 26 #[.val (.ref t0), .val (.ref t1), .val (.int (4 : Int32))] [] t
    refine XS.iinc X00.here hx rfl (hb hby d_jdk_43_method_13_code_26) rfl (l' := #[.val (.ref t0), .val (.ref t1), .val (.int ((4 : Int32) + (1 : Int32)))]) rfl ?_
    show own_At p e below m s₁ 29 #[.val (.ref t0), .val (.ref t1), .val (.int ((4 : Int32) + (1 : Int32)))] [] t
    rw [show ((4 : Int32) + (1 : Int32)) = (5 : Int32) from by decide]
    show own_At p e below m s₁ 29 #[.val (.ref t0), .val (.ref t1), .val (.int (5 : Int32))] [] t
    refine XS.goto X00.here hx rfl (pc0 := 29) (pc' := 9) rfl (hb hby d_jdk_43_method_13_code_29) (by decide) (by decide) ?_
    show own_At p e below m s₁ 9 #[.val (.ref t0), .val (.ref t1), .val (.int (5 : Int32))] [] t
    refine XS.iloadN X00.here hx rfl (hb hby d_jdk_43_method_13_code_9) rfl ?_
    show own_At p e below m s₁ 10 #[.val (.ref t0), .val (.ref t1), .val (.int (5 : Int32))] [(.int (5 : Int32))] t
    refine XS.aloadN X00.here hx rfl (hb hby d_jdk_43_method_13_code_10) rfl rfl ?_
    show own_At p e below m s₁ 11 #[.val (.ref t0), .val (.ref t1), .val (.int (5 : Int32))] [(.ref t0), (.int (5 : Int32))] t
    refine X00.arraylength hx (by rw [e00]; exact Ar47.1) (State.isArrayOf_alike hZ.alike Ar47.2.1) (g := (mkF m 11 #[.val (.ref t0), .val (.ref t1), .val (.int (5 : Int32))] [(.ref t0), (.int (5 : Int32))])) rfl rfl (hb hby d_jdk_43_method_13_code_11) _ ?_
    rw [len_of Sz47 Nn47]
    show own_At p e below m s₁ 12 #[.val (.ref t0), .val (.ref t1), .val (.int (5 : Int32))] [(.int (10 : Int32)), (.int (5 : Int32))] t
    refine XS.icmpNo X00.here hx rfl (hb hby d_jdk_43_method_13_code_12) rfl (tlt (by decide : (5 : Int32) < (10 : Int32))).2.1 ?_
    show own_At p e below m s₁ 15 #[.val (.ref t0), .val (.ref t1), .val (.int (5 : Int32))] [] t
    refine XS.aloadN X00.here hx rfl (hb hby d_jdk_43_method_13_code_15) rfl rfl ?_
    show own_At p e below m s₁ 16 #[.val (.ref t0), .val (.ref t1), .val (.int (5 : Int32))] [(.ref t0)] t
    refine XS.iloadN X00.here hx rfl (hb hby d_jdk_43_method_13_code_16) rfl ?_
    show own_At p e below m s₁ 17 #[.val (.ref t0), .val (.ref t1), .val (.int (5 : Int32))] [(.int (5 : Int32)), (.ref t0)] t
    refine X00.baloadBytes hx (j := (5 : Int32)) (v := (.int (104 : Int32))) (by rw [e00]; exact Ar48.1) (State.isArrayOf_alike hZ.alike Ar48.2.1) Ar48.2.2 hin49 hat50 (g := (mkF m 17 #[.val (.ref t0), .val (.ref t1), .val (.int (5 : Int32))] [(.int (5 : Int32)), (.ref t0)])) rfl rfl (hb hby d_jdk_43_method_13_code_17) _ ?_
    show own_At p e below m s₁ 18 #[.val (.ref t0), .val (.ref t1), .val (.int (5 : Int32))] [(.int (104 : Int32))] t
    refine XS.aloadN X00.here hx rfl (hb hby d_jdk_43_method_13_code_18) rfl rfl ?_
    show own_At p e below m s₁ 19 #[.val (.ref t0), .val (.ref t1), .val (.int (5 : Int32))] [(.ref t1), (.int (104 : Int32))] t
    refine XS.iloadN X00.here hx rfl (hb hby d_jdk_43_method_13_code_19) rfl ?_
    show own_At p e below m s₁ 20 #[.val (.ref t0), .val (.ref t1), .val (.int (5 : Int32))] [(.int (5 : Int32)), (.ref t1), (.int (104 : Int32))] t
    refine X00.baloadBytes hx (j := (5 : Int32)) (v := (.int (104 : Int32))) (by rw [e00]; exact Ar51.1) (State.isArrayOf_alike hZ.alike Ar51.2.1) Ar51.2.2 hin52 hat53 (g := (mkF m 20 #[.val (.ref t0), .val (.ref t1), .val (.int (5 : Int32))] [(.int (5 : Int32)), (.ref t1), (.int (104 : Int32))])) rfl rfl (hb hby d_jdk_43_method_13_code_20) _ ?_
    show own_At p e below m s₁ 21 #[.val (.ref t0), .val (.ref t1), .val (.int (5 : Int32))] [(.int (104 : Int32)), (.int (104 : Int32))] t
    refine XS.icmpYes X00.here hx rfl (pc0 := 21) (pc' := 26) rfl (hb hby d_jdk_43_method_13_code_21) rfl (teq (by decide : (104 : Int32) = (104 : Int32))).1 (by decide) (by decide) ?_
    show own_At p e below m s₁ 26 #[.val (.ref t0), .val (.ref t1), .val (.int (5 : Int32))] [] t
    refine XS.iinc X00.here hx rfl (hb hby d_jdk_43_method_13_code_26) rfl (l' := #[.val (.ref t0), .val (.ref t1), .val (.int ((5 : Int32) + (1 : Int32)))]) rfl ?_
    show own_At p e below m s₁ 29 #[.val (.ref t0), .val (.ref t1), .val (.int ((5 : Int32) + (1 : Int32)))] [] t
    rw [show ((5 : Int32) + (1 : Int32)) = (6 : Int32) from by decide]
    show own_At p e below m s₁ 29 #[.val (.ref t0), .val (.ref t1), .val (.int (6 : Int32))] [] t
    refine XS.goto X00.here hx rfl (pc0 := 29) (pc' := 9) rfl (hb hby d_jdk_43_method_13_code_29) (by decide) (by decide) ?_
    show own_At p e below m s₁ 9 #[.val (.ref t0), .val (.ref t1), .val (.int (6 : Int32))] [] t
    refine XS.iloadN X00.here hx rfl (hb hby d_jdk_43_method_13_code_9) rfl ?_
    show own_At p e below m s₁ 10 #[.val (.ref t0), .val (.ref t1), .val (.int (6 : Int32))] [(.int (6 : Int32))] t
    refine XS.aloadN X00.here hx rfl (hb hby d_jdk_43_method_13_code_10) rfl rfl ?_
    show own_At p e below m s₁ 11 #[.val (.ref t0), .val (.ref t1), .val (.int (6 : Int32))] [(.ref t0), (.int (6 : Int32))] t
    refine X00.arraylength hx (by rw [e00]; exact Ar54.1) (State.isArrayOf_alike hZ.alike Ar54.2.1) (g := (mkF m 11 #[.val (.ref t0), .val (.ref t1), .val (.int (6 : Int32))] [(.ref t0), (.int (6 : Int32))])) rfl rfl (hb hby d_jdk_43_method_13_code_11) _ ?_
    rw [len_of Sz54 Nn54]
    show own_At p e below m s₁ 12 #[.val (.ref t0), .val (.ref t1), .val (.int (6 : Int32))] [(.int (10 : Int32)), (.int (6 : Int32))] t
    refine XS.icmpNo X00.here hx rfl (hb hby d_jdk_43_method_13_code_12) rfl (tlt (by decide : (6 : Int32) < (10 : Int32))).2.1 ?_
    show own_At p e below m s₁ 15 #[.val (.ref t0), .val (.ref t1), .val (.int (6 : Int32))] [] t
    refine XS.aloadN X00.here hx rfl (hb hby d_jdk_43_method_13_code_15) rfl rfl ?_
    show own_At p e below m s₁ 16 #[.val (.ref t0), .val (.ref t1), .val (.int (6 : Int32))] [(.ref t0)] t
    refine XS.iloadN X00.here hx rfl (hb hby d_jdk_43_method_13_code_16) rfl ?_
    show own_At p e below m s₁ 17 #[.val (.ref t0), .val (.ref t1), .val (.int (6 : Int32))] [(.int (6 : Int32)), (.ref t0)] t
    refine X00.baloadBytes hx (j := (6 : Int32)) (v := (.int (101 : Int32))) (by rw [e00]; exact Ar55.1) (State.isArrayOf_alike hZ.alike Ar55.2.1) Ar55.2.2 hin56 hat57 (g := (mkF m 17 #[.val (.ref t0), .val (.ref t1), .val (.int (6 : Int32))] [(.int (6 : Int32)), (.ref t0)])) rfl rfl (hb hby d_jdk_43_method_13_code_17) _ ?_
    show own_At p e below m s₁ 18 #[.val (.ref t0), .val (.ref t1), .val (.int (6 : Int32))] [(.int (101 : Int32))] t
    refine XS.aloadN X00.here hx rfl (hb hby d_jdk_43_method_13_code_18) rfl rfl ?_
    show own_At p e below m s₁ 19 #[.val (.ref t0), .val (.ref t1), .val (.int (6 : Int32))] [(.ref t1), (.int (101 : Int32))] t
    refine XS.iloadN X00.here hx rfl (hb hby d_jdk_43_method_13_code_19) rfl ?_
    show own_At p e below m s₁ 20 #[.val (.ref t0), .val (.ref t1), .val (.int (6 : Int32))] [(.int (6 : Int32)), (.ref t1), (.int (101 : Int32))] t
    refine X00.baloadBytes hx (j := (6 : Int32)) (v := (.int (101 : Int32))) (by rw [e00]; exact Ar58.1) (State.isArrayOf_alike hZ.alike Ar58.2.1) Ar58.2.2 hin59 hat60 (g := (mkF m 20 #[.val (.ref t0), .val (.ref t1), .val (.int (6 : Int32))] [(.int (6 : Int32)), (.ref t1), (.int (101 : Int32))])) rfl rfl (hb hby d_jdk_43_method_13_code_20) _ ?_
    show own_At p e below m s₁ 21 #[.val (.ref t0), .val (.ref t1), .val (.int (6 : Int32))] [(.int (101 : Int32)), (.int (101 : Int32))] t
    refine XS.icmpYes X00.here hx rfl (pc0 := 21) (pc' := 26) rfl (hb hby d_jdk_43_method_13_code_21) rfl (teq (by decide : (101 : Int32) = (101 : Int32))).1 (by decide) (by decide) ?_
    show own_At p e below m s₁ 26 #[.val (.ref t0), .val (.ref t1), .val (.int (6 : Int32))] [] t
    refine XS.iinc X00.here hx rfl (hb hby d_jdk_43_method_13_code_26) rfl (l' := #[.val (.ref t0), .val (.ref t1), .val (.int ((6 : Int32) + (1 : Int32)))]) rfl ?_
    show own_At p e below m s₁ 29 #[.val (.ref t0), .val (.ref t1), .val (.int ((6 : Int32) + (1 : Int32)))] [] t
    rw [show ((6 : Int32) + (1 : Int32)) = (7 : Int32) from by decide]
    show own_At p e below m s₁ 29 #[.val (.ref t0), .val (.ref t1), .val (.int (7 : Int32))] [] t
    refine XS.goto X00.here hx rfl (pc0 := 29) (pc' := 9) rfl (hb hby d_jdk_43_method_13_code_29) (by decide) (by decide) ?_
    show own_At p e below m s₁ 9 #[.val (.ref t0), .val (.ref t1), .val (.int (7 : Int32))] [] t
    refine XS.iloadN X00.here hx rfl (hb hby d_jdk_43_method_13_code_9) rfl ?_
    show own_At p e below m s₁ 10 #[.val (.ref t0), .val (.ref t1), .val (.int (7 : Int32))] [(.int (7 : Int32))] t
    refine XS.aloadN X00.here hx rfl (hb hby d_jdk_43_method_13_code_10) rfl rfl ?_
    show own_At p e below m s₁ 11 #[.val (.ref t0), .val (.ref t1), .val (.int (7 : Int32))] [(.ref t0), (.int (7 : Int32))] t
    refine X00.arraylength hx (by rw [e00]; exact Ar61.1) (State.isArrayOf_alike hZ.alike Ar61.2.1) (g := (mkF m 11 #[.val (.ref t0), .val (.ref t1), .val (.int (7 : Int32))] [(.ref t0), (.int (7 : Int32))])) rfl rfl (hb hby d_jdk_43_method_13_code_11) _ ?_
    rw [len_of Sz61 Nn61]
    show own_At p e below m s₁ 12 #[.val (.ref t0), .val (.ref t1), .val (.int (7 : Int32))] [(.int (10 : Int32)), (.int (7 : Int32))] t
    refine XS.icmpNo X00.here hx rfl (hb hby d_jdk_43_method_13_code_12) rfl (tlt (by decide : (7 : Int32) < (10 : Int32))).2.1 ?_
    show own_At p e below m s₁ 15 #[.val (.ref t0), .val (.ref t1), .val (.int (7 : Int32))] [] t
    refine XS.aloadN X00.here hx rfl (hb hby d_jdk_43_method_13_code_15) rfl rfl ?_
    show own_At p e below m s₁ 16 #[.val (.ref t0), .val (.ref t1), .val (.int (7 : Int32))] [(.ref t0)] t
    refine XS.iloadN X00.here hx rfl (hb hby d_jdk_43_method_13_code_16) rfl ?_
    show own_At p e below m s₁ 17 #[.val (.ref t0), .val (.ref t1), .val (.int (7 : Int32))] [(.int (7 : Int32)), (.ref t0)] t
    refine X00.baloadBytes hx (j := (7 : Int32)) (v := (.int (99 : Int32))) (by rw [e00]; exact Ar62.1) (State.isArrayOf_alike hZ.alike Ar62.2.1) Ar62.2.2 hin63 hat64 (g := (mkF m 17 #[.val (.ref t0), .val (.ref t1), .val (.int (7 : Int32))] [(.int (7 : Int32)), (.ref t0)])) rfl rfl (hb hby d_jdk_43_method_13_code_17) _ ?_
    show own_At p e below m s₁ 18 #[.val (.ref t0), .val (.ref t1), .val (.int (7 : Int32))] [(.int (99 : Int32))] t
    refine XS.aloadN X00.here hx rfl (hb hby d_jdk_43_method_13_code_18) rfl rfl ?_
    show own_At p e below m s₁ 19 #[.val (.ref t0), .val (.ref t1), .val (.int (7 : Int32))] [(.ref t1), (.int (99 : Int32))] t
    refine XS.iloadN X00.here hx rfl (hb hby d_jdk_43_method_13_code_19) rfl ?_
    show own_At p e below m s₁ 20 #[.val (.ref t0), .val (.ref t1), .val (.int (7 : Int32))] [(.int (7 : Int32)), (.ref t1), (.int (99 : Int32))] t
    refine X00.baloadBytes hx (j := (7 : Int32)) (v := (.int (99 : Int32))) (by rw [e00]; exact Ar65.1) (State.isArrayOf_alike hZ.alike Ar65.2.1) Ar65.2.2 hin66 hat67 (g := (mkF m 20 #[.val (.ref t0), .val (.ref t1), .val (.int (7 : Int32))] [(.int (7 : Int32)), (.ref t1), (.int (99 : Int32))])) rfl rfl (hb hby d_jdk_43_method_13_code_20) _ ?_
    show own_At p e below m s₁ 21 #[.val (.ref t0), .val (.ref t1), .val (.int (7 : Int32))] [(.int (99 : Int32)), (.int (99 : Int32))] t
    refine XS.icmpYes X00.here hx rfl (pc0 := 21) (pc' := 26) rfl (hb hby d_jdk_43_method_13_code_21) rfl (teq (by decide : (99 : Int32) = (99 : Int32))).1 (by decide) (by decide) ?_
    show own_At p e below m s₁ 26 #[.val (.ref t0), .val (.ref t1), .val (.int (7 : Int32))] [] t
    refine XS.iinc X00.here hx rfl (hb hby d_jdk_43_method_13_code_26) rfl (l' := #[.val (.ref t0), .val (.ref t1), .val (.int ((7 : Int32) + (1 : Int32)))]) rfl ?_
    show own_At p e below m s₁ 29 #[.val (.ref t0), .val (.ref t1), .val (.int ((7 : Int32) + (1 : Int32)))] [] t
    rw [show ((7 : Int32) + (1 : Int32)) = (8 : Int32) from by decide]
    show own_At p e below m s₁ 29 #[.val (.ref t0), .val (.ref t1), .val (.int (8 : Int32))] [] t
    refine XS.goto X00.here hx rfl (pc0 := 29) (pc' := 9) rfl (hb hby d_jdk_43_method_13_code_29) (by decide) (by decide) ?_
    show own_At p e below m s₁ 9 #[.val (.ref t0), .val (.ref t1), .val (.int (8 : Int32))] [] t
    refine XS.iloadN X00.here hx rfl (hb hby d_jdk_43_method_13_code_9) rfl ?_
    show own_At p e below m s₁ 10 #[.val (.ref t0), .val (.ref t1), .val (.int (8 : Int32))] [(.int (8 : Int32))] t
    refine XS.aloadN X00.here hx rfl (hb hby d_jdk_43_method_13_code_10) rfl rfl ?_
    show own_At p e below m s₁ 11 #[.val (.ref t0), .val (.ref t1), .val (.int (8 : Int32))] [(.ref t0), (.int (8 : Int32))] t
    refine X00.arraylength hx (by rw [e00]; exact Ar68.1) (State.isArrayOf_alike hZ.alike Ar68.2.1) (g := (mkF m 11 #[.val (.ref t0), .val (.ref t1), .val (.int (8 : Int32))] [(.ref t0), (.int (8 : Int32))])) rfl rfl (hb hby d_jdk_43_method_13_code_11) _ ?_
    rw [len_of Sz68 Nn68]
    show own_At p e below m s₁ 12 #[.val (.ref t0), .val (.ref t1), .val (.int (8 : Int32))] [(.int (10 : Int32)), (.int (8 : Int32))] t
    refine XS.icmpNo X00.here hx rfl (hb hby d_jdk_43_method_13_code_12) rfl (tlt (by decide : (8 : Int32) < (10 : Int32))).2.1 ?_
    show own_At p e below m s₁ 15 #[.val (.ref t0), .val (.ref t1), .val (.int (8 : Int32))] [] t
    refine XS.aloadN X00.here hx rfl (hb hby d_jdk_43_method_13_code_15) rfl rfl ?_
    show own_At p e below m s₁ 16 #[.val (.ref t0), .val (.ref t1), .val (.int (8 : Int32))] [(.ref t0)] t
    refine XS.iloadN X00.here hx rfl (hb hby d_jdk_43_method_13_code_16) rfl ?_
    show own_At p e below m s₁ 17 #[.val (.ref t0), .val (.ref t1), .val (.int (8 : Int32))] [(.int (8 : Int32)), (.ref t0)] t
    refine X00.baloadBytes hx (j := (8 : Int32)) (v := (.int (107 : Int32))) (by rw [e00]; exact Ar69.1) (State.isArrayOf_alike hZ.alike Ar69.2.1) Ar69.2.2 hin70 hat71 (g := (mkF m 17 #[.val (.ref t0), .val (.ref t1), .val (.int (8 : Int32))] [(.int (8 : Int32)), (.ref t0)])) rfl rfl (hb hby d_jdk_43_method_13_code_17) _ ?_
    show own_At p e below m s₁ 18 #[.val (.ref t0), .val (.ref t1), .val (.int (8 : Int32))] [(.int (107 : Int32))] t
    refine XS.aloadN X00.here hx rfl (hb hby d_jdk_43_method_13_code_18) rfl rfl ?_
    show own_At p e below m s₁ 19 #[.val (.ref t0), .val (.ref t1), .val (.int (8 : Int32))] [(.ref t1), (.int (107 : Int32))] t
    refine XS.iloadN X00.here hx rfl (hb hby d_jdk_43_method_13_code_19) rfl ?_
    show own_At p e below m s₁ 20 #[.val (.ref t0), .val (.ref t1), .val (.int (8 : Int32))] [(.int (8 : Int32)), (.ref t1), (.int (107 : Int32))] t
    refine X00.baloadBytes hx (j := (8 : Int32)) (v := (.int (107 : Int32))) (by rw [e00]; exact Ar72.1) (State.isArrayOf_alike hZ.alike Ar72.2.1) Ar72.2.2 hin73 hat74 (g := (mkF m 20 #[.val (.ref t0), .val (.ref t1), .val (.int (8 : Int32))] [(.int (8 : Int32)), (.ref t1), (.int (107 : Int32))])) rfl rfl (hb hby d_jdk_43_method_13_code_20) _ ?_
    show own_At p e below m s₁ 21 #[.val (.ref t0), .val (.ref t1), .val (.int (8 : Int32))] [(.int (107 : Int32)), (.int (107 : Int32))] t
    refine XS.icmpYes X00.here hx rfl (pc0 := 21) (pc' := 26) rfl (hb hby d_jdk_43_method_13_code_21) rfl (teq (by decide : (107 : Int32) = (107 : Int32))).1 (by decide) (by decide) ?_
    show own_At p e below m s₁ 26 #[.val (.ref t0), .val (.ref t1), .val (.int (8 : Int32))] [] t
    refine XS.iinc X00.here hx rfl (hb hby d_jdk_43_method_13_code_26) rfl (l' := #[.val (.ref t0), .val (.ref t1), .val (.int ((8 : Int32) + (1 : Int32)))]) rfl ?_
    show own_At p e below m s₁ 29 #[.val (.ref t0), .val (.ref t1), .val (.int ((8 : Int32) + (1 : Int32)))] [] t
    rw [show ((8 : Int32) + (1 : Int32)) = (9 : Int32) from by decide]
    show own_At p e below m s₁ 29 #[.val (.ref t0), .val (.ref t1), .val (.int (9 : Int32))] [] t
    refine XS.goto X00.here hx rfl (pc0 := 29) (pc' := 9) rfl (hb hby d_jdk_43_method_13_code_29) (by decide) (by decide) ?_
    show own_At p e below m s₁ 9 #[.val (.ref t0), .val (.ref t1), .val (.int (9 : Int32))] [] t
    refine XS.iloadN X00.here hx rfl (hb hby d_jdk_43_method_13_code_9) rfl ?_
    show own_At p e below m s₁ 10 #[.val (.ref t0), .val (.ref t1), .val (.int (9 : Int32))] [(.int (9 : Int32))] t
    refine XS.aloadN X00.here hx rfl (hb hby d_jdk_43_method_13_code_10) rfl rfl ?_
    show own_At p e below m s₁ 11 #[.val (.ref t0), .val (.ref t1), .val (.int (9 : Int32))] [(.ref t0), (.int (9 : Int32))] t
    refine X00.arraylength hx (by rw [e00]; exact Ar75.1) (State.isArrayOf_alike hZ.alike Ar75.2.1) (g := (mkF m 11 #[.val (.ref t0), .val (.ref t1), .val (.int (9 : Int32))] [(.ref t0), (.int (9 : Int32))])) rfl rfl (hb hby d_jdk_43_method_13_code_11) _ ?_
    rw [len_of Sz75 Nn75]
    show own_At p e below m s₁ 12 #[.val (.ref t0), .val (.ref t1), .val (.int (9 : Int32))] [(.int (10 : Int32)), (.int (9 : Int32))] t
    refine XS.icmpNo X00.here hx rfl (hb hby d_jdk_43_method_13_code_12) rfl (tlt (by decide : (9 : Int32) < (10 : Int32))).2.1 ?_
    show own_At p e below m s₁ 15 #[.val (.ref t0), .val (.ref t1), .val (.int (9 : Int32))] [] t
    refine XS.aloadN X00.here hx rfl (hb hby d_jdk_43_method_13_code_15) rfl rfl ?_
    show own_At p e below m s₁ 16 #[.val (.ref t0), .val (.ref t1), .val (.int (9 : Int32))] [(.ref t0)] t
    refine XS.iloadN X00.here hx rfl (hb hby d_jdk_43_method_13_code_16) rfl ?_
    show own_At p e below m s₁ 17 #[.val (.ref t0), .val (.ref t1), .val (.int (9 : Int32))] [(.int (9 : Int32)), (.ref t0)] t
    refine X00.baloadBytes hx (j := (9 : Int32)) (v := (.int (115 : Int32))) (by rw [e00]; exact Ar76.1) (State.isArrayOf_alike hZ.alike Ar76.2.1) Ar76.2.2 hin77 hat78 (g := (mkF m 17 #[.val (.ref t0), .val (.ref t1), .val (.int (9 : Int32))] [(.int (9 : Int32)), (.ref t0)])) rfl rfl (hb hby d_jdk_43_method_13_code_17) _ ?_
    show own_At p e below m s₁ 18 #[.val (.ref t0), .val (.ref t1), .val (.int (9 : Int32))] [(.int (115 : Int32))] t
    refine XS.aloadN X00.here hx rfl (hb hby d_jdk_43_method_13_code_18) rfl rfl ?_
    show own_At p e below m s₁ 19 #[.val (.ref t0), .val (.ref t1), .val (.int (9 : Int32))] [(.ref t1), (.int (115 : Int32))] t
    refine XS.iloadN X00.here hx rfl (hb hby d_jdk_43_method_13_code_19) rfl ?_
    show own_At p e below m s₁ 20 #[.val (.ref t0), .val (.ref t1), .val (.int (9 : Int32))] [(.int (9 : Int32)), (.ref t1), (.int (115 : Int32))] t
    refine X00.baloadBytes hx (j := (9 : Int32)) (v := (.int (115 : Int32))) (by rw [e00]; exact Ar79.1) (State.isArrayOf_alike hZ.alike Ar79.2.1) Ar79.2.2 hin80 hat81 (g := (mkF m 20 #[.val (.ref t0), .val (.ref t1), .val (.int (9 : Int32))] [(.int (9 : Int32)), (.ref t1), (.int (115 : Int32))])) rfl rfl (hb hby d_jdk_43_method_13_code_20) _ ?_
    show own_At p e below m s₁ 21 #[.val (.ref t0), .val (.ref t1), .val (.int (9 : Int32))] [(.int (115 : Int32)), (.int (115 : Int32))] t
    refine XS.icmpYes X00.here hx rfl (pc0 := 21) (pc' := 26) rfl (hb hby d_jdk_43_method_13_code_21) rfl (teq (by decide : (115 : Int32) = (115 : Int32))).1 (by decide) (by decide) ?_
    show own_At p e below m s₁ 26 #[.val (.ref t0), .val (.ref t1), .val (.int (9 : Int32))] [] t
    refine XS.iinc X00.here hx rfl (hb hby d_jdk_43_method_13_code_26) rfl (l' := #[.val (.ref t0), .val (.ref t1), .val (.int ((9 : Int32) + (1 : Int32)))]) rfl ?_
    show own_At p e below m s₁ 29 #[.val (.ref t0), .val (.ref t1), .val (.int ((9 : Int32) + (1 : Int32)))] [] t
    rw [show ((9 : Int32) + (1 : Int32)) = (10 : Int32) from by decide]
    show own_At p e below m s₁ 29 #[.val (.ref t0), .val (.ref t1), .val (.int (10 : Int32))] [] t
    refine XS.goto X00.here hx rfl (pc0 := 29) (pc' := 9) rfl (hb hby d_jdk_43_method_13_code_29) (by decide) (by decide) ?_
    show own_At p e below m s₁ 9 #[.val (.ref t0), .val (.ref t1), .val (.int (10 : Int32))] [] t
    refine XS.iloadN X00.here hx rfl (hb hby d_jdk_43_method_13_code_9) rfl ?_
    show own_At p e below m s₁ 10 #[.val (.ref t0), .val (.ref t1), .val (.int (10 : Int32))] [(.int (10 : Int32))] t
    refine XS.aloadN X00.here hx rfl (hb hby d_jdk_43_method_13_code_10) rfl rfl ?_
    show own_At p e below m s₁ 11 #[.val (.ref t0), .val (.ref t1), .val (.int (10 : Int32))] [(.ref t0), (.int (10 : Int32))] t
    refine X00.arraylength hx (by rw [e00]; exact Ar82.1) (State.isArrayOf_alike hZ.alike Ar82.2.1) (g := (mkF m 11 #[.val (.ref t0), .val (.ref t1), .val (.int (10 : Int32))] [(.ref t0), (.int (10 : Int32))])) rfl rfl (hb hby d_jdk_43_method_13_code_11) _ ?_
    rw [len_of Sz82 Nn82]
    show own_At p e below m s₁ 12 #[.val (.ref t0), .val (.ref t1), .val (.int (10 : Int32))] [(.int (10 : Int32)), (.int (10 : Int32))] t
    refine XS.icmpYes X00.here hx rfl (pc0 := 12) (pc' := 32) rfl (hb hby d_jdk_43_method_13_code_12) rfl (flt (by decide : ¬ ((10 : Int32) < (10 : Int32)))).2.1 (by decide) (by decide) ?_
    show own_At p e below m s₁ 32 #[.val (.ref t0), .val (.ref t1), .val (.int (10 : Int32))] [] t
    refine XS.iconst X00.here hx rfl (hb hby d_jdk_43_method_13_code_32) ?_
    show own_At p e below m s₁ 33 #[.val (.ref t0), .val (.ref t1), .val (.int (10 : Int32))] [(.int (1 : Int32))] t
    exact k
  obtain ⟨fs, hr, hrun, hended, hW, hsame⟩ := X00.leave (v := some (.int (1 : Int32))) (fun h => by rw [Bd.returns] at h; cases h)
  refine hNG ⟨_, _, k83 _ ?_, hrun, hended, _, _, rfl, ?_, ⟨_, rfl⟩, hW, hsame.mono (by decide) (by decide)⟩
  · exact retN X00 hx (t := .boolean) Bd.returns (by simp) (hb hby d_jdk_43_method_13_code_33) hr
  · show Q_leq3 Z t0 t1 k0 k1 a__VALUES a_ONE a_BATCH a_ONE_path a_BATCH_path a_ONE_path_value a_BATCH_path_value z_COMPACT_STRINGS r_SIOOBE_FORMATTER h0 n0 _ s₁.heap _
    rw [e00]
    exact ⟨rfl, N00, rfl⟩
theorem ef_eq3 (m : MethodId) (x0 : Addr) (x1 : Addr)  : entryFrame m #[(.ref x0), (.ref x1)] 3 = mkF m 0 #[.val (.ref x0), .val (.ref x1), .unset] [] := by first | (simp [entryFrame, mkF, argsToLocals, Value.category]; done) | rfl
def Q_eq3 (Z : State) (q0 : Addr) (q1 : Addr) (t0 : Addr) (t1 : Addr) (k0 : ClassId) (k1 : ClassId) (a__VALUES : Addr) (a_ONE : Addr) (a_BATCH : Addr) (a_ONE_path : Addr) (a_BATCH_path : Addr) (a_ONE_path_value : Addr) (a_BATCH_path_value : Addr) (z_COMPACT_STRINGS : Int32) (r_SIOOBE_FORMATTER : Value) (h0 : Heap) (n0 : Nat) (v : Option Value) (h : Heap) (L : List Loc) : Prop := v = some (.int (1 : Int32)) ∧ Fr n0 L ∧ h = h0
set_option maxRecDepth 65536 in
set_option maxHeartbeats 40000000 in
theorem rm_eq3 (l : Launch) (Z : State) (a0 : Array Value) (hw : ∀ d ∈ tables_1, d.before a0 Z = true) (ws : List Jvm.Cond) (q0 : Addr) (q1 : Addr) (t0 : Addr) (t1 : Addr) (k0 : ClassId) (k1 : ClassId) (a__VALUES : Addr) (a_ONE : Addr) (a_BATCH : Addr) (a_ONE_path : Addr) (a_BATCH_path : Addr) (a_ONE_path_value : Addr) (a_BATCH_path_value : Addr) (z_COMPACT_STRINGS : Int32) (r_SIOOBE_FORMATTER : Value) (h0 : Heap) (n0 : Nat) (O0 : Old Z n0 h0) (hE : EV Z a__VALUES a_ONE a_BATCH a_ONE_path a_BATCH_path a_ONE_path_value a_BATCH_path_value z_COMPACT_STRINGS r_SIOOBE_FORMATTER) (P0 : Exa Z h0 q0 "java/lang/String") (P1 : Fld Z h0 q0 "java/lang/String" "coder" "B" (.int (0 : Int32))) (P2 : Fld Z h0 q0 "java/lang/String" "value" "[B" (.ref t0)) (P3 : Arv Z h0 t0 k0 .byte (10 : Int32) [(.int (47 : Int32)), (.int (118 : Int32)), (.int (49 : Int32)), (.int (47 : Int32)), (.int (99 : Int32)), (.int (104 : Int32)), (.int (101 : Int32)), (.int (99 : Int32)), (.int (107 : Int32)), (.int (115 : Int32))] (.int (0 : Int32))) (P4 : Exa Z h0 q1 "java/lang/String") (P5 : Fld Z h0 q1 "java/lang/String" "coder" "B" (.int (0 : Int32))) (P6 : Fld Z h0 q1 "java/lang/String" "value" "[B" (.ref t1)) (P7 : Arv Z h0 t1 k1 .byte (10 : Int32) [(.int (47 : Int32)), (.int (118 : Int32)), (.int (49 : Int32)), (.int (47 : Int32)), (.int (99 : Int32)), (.int (104 : Int32)), (.int (101 : Int32)), (.int (99 : Int32)), (.int (107 : Int32)), (.int (115 : Int32))] (.int (0 : Int32))) :
    MetFree l own_m2 (head1 (Jvm.Cond.code own_m2 jdk_42_method_66_code 3 (some .boolean) :: ws) ({ frames := 1, cells := 0, slots := 0, locals := 14 } : Room)) (fun a U => a = #[(.ref q0), (.ref q1)] ∧ Z.Warmed39 U.vm ∧ U.heap = h0) (fun _ _ _ _ _ => True) (fun _ U o U' => ∃ v L, o = .returned v ∧ Q_eq3 Z q0 q1 t0 t1 k0 k1 a__VALUES a_ONE a_BATCH a_ONE_path a_BATCH_path a_ONE_path_value a_BATCH_path_value z_COMPACT_STRINGS r_SIOOBE_FORMATTER h0 n0 v U'.heap L ∧ FrameEnd U o U' L ({ frames := 1, cells := 0, slots := 0, locals := 14 } : Room).cells ({ frames := 1, cells := 0, slots := 0, locals := 14 } : Room).slots) := by
  refine MetFree.of_bodySF (plainFor_of_name pn_java_lang_String) hisR ?_
  intro p e s m args below meth c s₁ Bd hml0 hP hK
  obtain ⟨rfl, hZ, hh⟩ := hP
  have hx := Bd.exec
  have hby := Bd.bytes
  have hml : c.maxLocals = 3 := hml0
  have hown : s.vm.findClass "java/lang/String" = some m.cls := findClass_of_methodNamed Bd.named
  have hnm := (name_of_methodNamed Bd.named Bd.method).1
  have X00 : Stand p l e ({ frames := 1, cells := 0, slots := 0, locals := 14 } : Room) s m #[(.ref q0), (.ref q1)] below meth c s₁ [] 0 0 := Stand.of_body Bd
  have e00 : s₁.heap = h0 := by rw [← hh, Bd.state]; rfl
  have N00 := Fr.nil n0
  refine Classical.byContradiction fun hNG => ?_
  have K00 := Keep.refl h0 []
  have k00 : ∀ t, own_At p e below m s₁ 0 #[.val (.ref q0), .val (.ref q1), .unset] [] t → own_En p e below m s₁ #[(.ref q0), (.ref q1)] 3 t := fun t k => castTop (ef_eq3 m q0 q1 ) k
  obtain ⟨S__VALUES, E__VALUES, S_ONE, E_ONE, S_BATCH, E_BATCH, F_ONE_path, E_ONE_path, F_BATCH_path, E_BATCH_path, F_ONE_path_coder, F_ONE_path_value, F_BATCH_path_coder, F_BATCH_path_value, ne_BATCH_path_ONE_path, S_COMPACT_STRINGS, nz_COMPACT_STRINGS, S_SIOOBE_FORMATTER, iS_SIOOBE_FORMATTER, C__VALUES, C_ONE_path_value, C_BATCH_path_value⟩ := (id hE : EV Z a__VALUES a_ONE a_BATCH a_ONE_path a_BATCH_path a_ONE_path_value a_BATCH_path_value z_COMPACT_STRINGS r_SIOOBE_FORMATTER)
  obtain ⟨kw_ONE_path, Aw_ONE_path⟩ := C_ONE_path_value.arv
  obtain ⟨kw_BATCH_path, Aw_BATCH_path⟩ := C_BATCH_path_value.arv
  have k10 : ∀ t, own_At p e below m s₁ 2 #[.val (.ref q0), .val (.ref q1), .unset] [(.ref q1), (.ref q0)] t → own_En p e below m s₁ #[(.ref q0), (.ref q1)] 3 t := by
    intro t k
    refine k00 t ?_
    refine XS.aloadN X00.here hx rfl (hb hby d_jdk_42_method_66_code_0) rfl rfl ?_
    show own_At p e below m s₁ 1 #[.val (.ref q0), .val (.ref q1), .unset] [(.ref q0)] t
    refine XS.aloadN X00.here hx rfl (hb hby d_jdk_42_method_66_code_1) rfl rfl ?_
    show own_At p e below m s₁ 2 #[.val (.ref q0), .val (.ref q1), .unset] [(.ref q1), (.ref q0)] t
    exact k
  by_cases hc11 : q0 = q1
  · have k12 : ∀ t, own_At p e below m s₁ 6 #[.val (.ref q0), .val (.ref q1), .unset] [(.int (1 : Int32))] t → own_En p e below m s₁ #[(.ref q0), (.ref q1)] 3 t := by
      intro t k
      refine k10 t ?_
      refine Jvm.RoadKit.acmp (g := (mkF m 2 #[.val (.ref q0), .val (.ref q1), .unset] [(.ref q1), (.ref q0)])) X00 hx rfl rfl rfl (pc0 := 2) (pc' := 5) (same := true) rfl (hb hby d_jdk_42_method_66_code_2) rfl (decide_eq_true (congrArg Value.ref hc11)) (by decide) (by decide) ?_
      show own_At p e below m s₁ 5 #[.val (.ref q0), .val (.ref q1), .unset] [] t
      refine XS.iconst X00.here hx rfl (hb hby d_jdk_42_method_66_code_5) ?_
      show own_At p e below m s₁ 6 #[.val (.ref q0), .val (.ref q1), .unset] [(.int (1 : Int32))] t
      exact k
    obtain ⟨fs, hr, hrun, hended, hW, hsame⟩ := X00.leave (v := some (.int (1 : Int32))) (fun h => by rw [Bd.returns] at h; cases h)
    refine hNG ⟨_, _, k12 _ ?_, hrun, hended, _, _, rfl, ?_, ⟨_, rfl⟩, hW, hsame.mono (by decide) (by decide)⟩
    · exact retN X00 hx (t := .boolean) Bd.returns (by simp) (hb hby d_jdk_42_method_66_code_6) hr
    · show Q_eq3 Z q0 q1 t0 t1 k0 k1 a__VALUES a_ONE a_BATCH a_ONE_path a_BATCH_path a_ONE_path_value a_BATCH_path_value z_COMPACT_STRINGS r_SIOOBE_FORMATTER h0 n0 _ s₁.heap _
      rw [e00]
      exact ⟨rfl, N00, rfl⟩
  · obtain ⟨T13, X13, e13, st13⟩ := instY X00 hx hZ hown (own_w hw 39 rfl) e00 (Ins.self P4) (g := (mkF m 8 #[.val (.ref q0), .val (.ref q1), .unset] [(.ref q1)])) rfl rfl (hb hby d_jdk_42_method_66_code_8)
    obtain ⟨T14, X14, e14, st14⟩ := castY X13 hx hZ hown (own_w hw 39 rfl) e13 (Ins.self P4) (g := (mkF m 15 #[.val (.ref q0), .val (.ref q1), .unset] [(.ref q1)])) rfl rfl (hb hby d_jdk_42_method_66_code_15)
    obtain ⟨T15, X15, e15, st15⟩ := getS2 X14 hx hZ hown (host := "") (Or.inl (own_w hw 40 rfl)) Via.refl e14 (S_COMPACT_STRINGS.ext O0.2) (g := (mkF m 19 #[.val (.ref q0), .val (.ref q1), .val (.ref q1)] [])) rfl (hb hby d_jdk_42_method_66_code_19)
    obtain ⟨T16, X16, e16, st16⟩ := getF X15 hx hZ hown (host := "") (Or.inl (own_w hw 41 rfl)) Via.refl e15 P1 (g := (mkF m 26 #[.val (.ref q0), .val (.ref q1), .val (.ref q1)] [(.ref q0)])) rfl rfl (hb hby d_jdk_42_method_66_code_26)
    obtain ⟨T17, X17, e17, st17⟩ := getF X16 hx hZ hown (host := "") (Or.inl (own_w hw 41 rfl)) Via.refl e16 P5 (g := (mkF m 30 #[.val (.ref q0), .val (.ref q1), .val (.ref q1)] [(.ref q1), (.int (0 : Int32))])) rfl rfl (hb hby d_jdk_42_method_66_code_30)
    obtain ⟨T18, X18, e18, st18⟩ := getF X17 hx hZ hown (host := "") (Or.inl (own_w hw 42 rfl)) Via.refl e17 P2 (g := (mkF m 37 #[.val (.ref q0), .val (.ref q1), .val (.ref q1)] [(.ref q0)])) rfl rfl (hb hby d_jdk_42_method_66_code_37)
    obtain ⟨T19, X19, e19, st19⟩ := getF X18 hx hZ hown (host := "") (Or.inl (own_w hw 42 rfl)) Via.refl e18 P6 (g := (mkF m 41 #[.val (.ref q0), .val (.ref q1), .val (.ref q1)] [(.ref q1), (.ref t0)])) rfl rfl (hb hby d_jdk_42_method_66_code_41)
    obtain ⟨_, _, ⟨T20, L20, k20, n20⟩, -, X20, ⟨Lc20, hQ20, l20, y20, z20⟩, st20⟩ := Jvm.LawKit.callS X19 hx (y := own_m4) hown (mvT hZ (own_w hw 43 rfl)) (mvT hZ (own_w hw 44 rfl)) (mvT hZ (own_w hw 45 rfl)) (mvT hZ (own_w hw 46 rfl)) (by decide) (backOf (W := 0) (rm_leq3 l Z a0 hw [] t0 t1 k0 k1 _ _ _ _ _ _ _ _ _ h0 n0 O0 hE P3 P7 ) hZ (own_w hw 46 rfl) (own_w hw 45 rfl) (by decide) (by decide)) (g := (mkF m 44 #[.val (.ref q0), .val (.ref q1), .val (.ref q1)] [(.ref t1), (.ref t0)])) rfl (by rw [hml]; rfl) (argsL := [(.ref t0), (.ref t1)]) (rest := []) (lenOf pd___B_B_Z rfl) rfl (by show 2 * 0 + _ ≤ _; exact Nat.le_of_eq rfl) (hb hby d_jdk_42_method_66_code_44) (fun _ _ => ⟨rfl, e19, (by decide : 0 + 0 ≤ _), (by decide : 0 + 0 ≤ _)⟩)
    dsimp only [Pt.U, Pt.locs, Pt.cells, Pt.slots] at X20 l20 y20 z20 st20 hQ20
    subst l20 y20 z20
    obtain ⟨rfl, N20q, hp20⟩ := hQ20
    have N20 := Fr.app N00 N20q
    have k21 : ∀ t, own_At p e below m T20 55 #[.val (.ref q0), .val (.ref q1), .val (.ref q1)] [(.int (1 : Int32))] t → own_En p e below m s₁ #[(.ref q0), (.ref q1)] 3 t := by
      intro t k
      refine k10 t ?_
      refine Jvm.RoadKit.acmp (g := (mkF m 2 #[.val (.ref q0), .val (.ref q1), .unset] [(.ref q1), (.ref q0)])) X00 hx rfl rfl rfl (pc0 := 2) (pc' := 7) (same := false) rfl (hb hby d_jdk_42_method_66_code_2) rfl (decide_eq_false fun q => hc11 (Value.ref.inj q)) (by decide) (by decide) ?_
      show own_At p e below m s₁ 7 #[.val (.ref q0), .val (.ref q1), .unset] [] t
      refine XS.aloadN X00.here hx rfl (hb hby d_jdk_42_method_66_code_7) rfl rfl ?_
      show own_At p e below m s₁ 8 #[.val (.ref q0), .val (.ref q1), .unset] [(.ref q1)] t
      refine st13 _ ?_
      show own_At p e below m T13 11 #[.val (.ref q0), .val (.ref q1), .unset] [(.int (1 : Int32))] t
      refine XS.ifNo X13.here hx rfl (hb hby d_jdk_42_method_66_code_11) rfl ((if0 _ _).trans (feq (by decide : ¬ ((1 : Int32) = (0 : Int32)))).1) ?_
      show own_At p e below m T13 14 #[.val (.ref q0), .val (.ref q1), .unset] [] t
      refine XS.aloadN X13.here hx rfl (hb hby d_jdk_42_method_66_code_14) rfl rfl ?_
      show own_At p e below m T13 15 #[.val (.ref q0), .val (.ref q1), .unset] [(.ref q1)] t
      refine st14 _ ?_
      show own_At p e below m T14 18 #[.val (.ref q0), .val (.ref q1), .unset] [(.ref q1)] t
      refine XS.astoreN X14.here hx rfl (hb hby d_jdk_42_method_66_code_18) rfl rfl (l' := #[.val (.ref q0), .val (.ref q1), .val (.ref q1)]) rfl ?_
      show own_At p e below m T14 19 #[.val (.ref q0), .val (.ref q1), .val (.ref q1)] [] t
      refine st15 _ ?_
      show own_At p e below m T15 22 #[.val (.ref q0), .val (.ref q1), .val (.ref q1)] [(.int z_COMPACT_STRINGS)] t
      refine XS.ifNo X15.here hx rfl (hb hby d_jdk_42_method_66_code_22) rfl ((if0 _ _).trans (feq nz_COMPACT_STRINGS).1) ?_
      show own_At p e below m T15 25 #[.val (.ref q0), .val (.ref q1), .val (.ref q1)] [] t
      refine XS.aloadN X15.here hx rfl (hb hby d_jdk_42_method_66_code_25) rfl rfl ?_
      show own_At p e below m T15 26 #[.val (.ref q0), .val (.ref q1), .val (.ref q1)] [(.ref q0)] t
      refine st16 _ ?_
      show own_At p e below m T16 29 #[.val (.ref q0), .val (.ref q1), .val (.ref q1)] [(.int (0 : Int32))] t
      refine XS.aloadN X16.here hx rfl (hb hby d_jdk_42_method_66_code_29) rfl rfl ?_
      show own_At p e below m T16 30 #[.val (.ref q0), .val (.ref q1), .val (.ref q1)] [(.ref q1), (.int (0 : Int32))] t
      refine st17 _ ?_
      show own_At p e below m T17 33 #[.val (.ref q0), .val (.ref q1), .val (.ref q1)] [(.int (0 : Int32)), (.int (0 : Int32))] t
      refine XS.icmpNo X17.here hx rfl (hb hby d_jdk_42_method_66_code_33) rfl (teq (by decide : (0 : Int32) = (0 : Int32))).2 ?_
      show own_At p e below m T17 36 #[.val (.ref q0), .val (.ref q1), .val (.ref q1)] [] t
      refine XS.aloadN X17.here hx rfl (hb hby d_jdk_42_method_66_code_36) rfl rfl ?_
      show own_At p e below m T17 37 #[.val (.ref q0), .val (.ref q1), .val (.ref q1)] [(.ref q0)] t
      refine st18 _ ?_
      show own_At p e below m T18 40 #[.val (.ref q0), .val (.ref q1), .val (.ref q1)] [(.ref t0)] t
      refine XS.aloadN X18.here hx rfl (hb hby d_jdk_42_method_66_code_40) rfl rfl ?_
      show own_At p e below m T18 41 #[.val (.ref q0), .val (.ref q1), .val (.ref q1)] [(.ref q1), (.ref t0)] t
      refine st19 _ ?_
      show own_At p e below m T19 44 #[.val (.ref q0), .val (.ref q1), .val (.ref q1)] [(.ref t1), (.ref t0)] t
      refine st20 _ ?_
      show own_At p e below m T20 47 #[.val (.ref q0), .val (.ref q1), .val (.ref q1)] [(.int (1 : Int32))] t
      refine XS.ifNo X20.here hx rfl (hb hby d_jdk_42_method_66_code_47) rfl ((if0 _ _).trans (feq (by decide : ¬ ((1 : Int32) = (0 : Int32)))).1) ?_
      show own_At p e below m T20 50 #[.val (.ref q0), .val (.ref q1), .val (.ref q1)] [] t
      refine XS.iconst X20.here hx rfl (hb hby d_jdk_42_method_66_code_50) ?_
      show own_At p e below m T20 51 #[.val (.ref q0), .val (.ref q1), .val (.ref q1)] [(.int (1 : Int32))] t
      refine XS.goto X20.here hx rfl (pc0 := 51) (pc' := 55) rfl (hb hby d_jdk_42_method_66_code_51) (by decide) (by decide) ?_
      show own_At p e below m T20 55 #[.val (.ref q0), .val (.ref q1), .val (.ref q1)] [(.int (1 : Int32))] t
      exact k
    obtain ⟨fs, hr, hrun, hended, hW, hsame⟩ := X20.leave (v := some (.int (1 : Int32))) (fun h => by rw [Bd.returns] at h; cases h)
    refine hNG ⟨_, _, k21 _ ?_, hrun, hended, _, _, rfl, ?_, ⟨_, rfl⟩, hW, hsame.mono (by decide) (by decide)⟩
    · exact retN X20 hx (t := .boolean) Bd.returns (by simp) (hb hby d_jdk_42_method_66_code_55) hr
    · show Q_eq3 Z q0 q1 t0 t1 k0 k1 a__VALUES a_ONE a_BATCH a_ONE_path a_BATCH_path a_ONE_path_value a_BATCH_path_value z_COMPACT_STRINGS r_SIOOBE_FORMATTER h0 n0 _ T20.heap _
      rw [hp20]
      exact ⟨rfl, N20, rfl⟩
theorem ef_f1 (m : MethodId) (x0 : Addr)  : entryFrame m #[(.ref x0)] 1 = mkF m 0 #[.val (.ref x0)] [] := by first | (simp [entryFrame, mkF, argsToLocals, Value.category]; done) | rfl
theorem d_prog_58_method_4_code_0 : decode prog_58_method_4_code 0 = .ok (.aload_n 0, 1) := by decide +kernel
theorem d_prog_58_method_4_code_1 : decode prog_58_method_4_code 1 = .ok (.getfield 29, 3) := by decide +kernel
theorem d_prog_58_method_4_code_4 : decode prog_58_method_4_code 4 = .ok (.areturn, 1) := by decide +kernel
abbrev own_m5 : MethodName := ⟨"com/example/kwota/kwota/server/CheckPath", "path", "()Ljava/lang/String;"⟩
def Q_f1 (Z : State) (a__VALUES : Addr) (a_ONE : Addr) (a_BATCH : Addr) (a_ONE_path : Addr) (a_BATCH_path : Addr) (a_ONE_path_value : Addr) (a_BATCH_path_value : Addr) (z_COMPACT_STRINGS : Int32) (r_SIOOBE_FORMATTER : Value) (h0 : Heap) (n0 : Nat) (v : Option Value) (h : Heap) (L : List Loc) : Prop := v = some (.ref a_ONE_path) ∧ Fr n0 L ∧ h = h0
set_option maxRecDepth 65536 in
set_option maxHeartbeats 40000000 in
theorem rm_f1 (l : Launch) (Z : State) (a0 : Array Value) (hw : ∀ d ∈ tables_1, d.before a0 Z = true) (ws : List Jvm.Cond) (a__VALUES : Addr) (a_ONE : Addr) (a_BATCH : Addr) (a_ONE_path : Addr) (a_BATCH_path : Addr) (a_ONE_path_value : Addr) (a_BATCH_path_value : Addr) (z_COMPACT_STRINGS : Int32) (r_SIOOBE_FORMATTER : Value) (h0 : Heap) (n0 : Nat) (O0 : Old Z n0 h0) (hE : EV Z a__VALUES a_ONE a_BATCH a_ONE_path a_BATCH_path a_ONE_path_value a_BATCH_path_value z_COMPACT_STRINGS r_SIOOBE_FORMATTER) :
    MetFree l own_m5 (head1 (Jvm.Cond.code own_m5 prog_58_method_4_code 1 (some (.object "java/lang/String")) :: ws) ({ frames := 0, cells := 0, slots := 0, locals := 0 } : Room)) (fun a U => a = #[(.ref a_ONE)] ∧ Z.Warmed39 U.vm ∧ U.heap = h0) (fun _ _ _ _ _ => True) (fun _ U o U' => ∃ v L, o = .returned v ∧ Q_f1 Z a__VALUES a_ONE a_BATCH a_ONE_path a_BATCH_path a_ONE_path_value a_BATCH_path_value z_COMPACT_STRINGS r_SIOOBE_FORMATTER h0 n0 v U'.heap L ∧ FrameEnd U o U' L ({ frames := 0, cells := 0, slots := 0, locals := 0 } : Room).cells ({ frames := 0, cells := 0, slots := 0, locals := 0 } : Room).slots) := by
  refine MetFree.of_bodySF (plainFor_of_name pn_com_example_kwota_kwota_server_CheckPath) hisR ?_
  intro p e s m args below meth c s₁ Bd hml0 hP hK
  obtain ⟨rfl, hZ, hh⟩ := hP
  have hx := Bd.exec
  have hby := Bd.bytes
  have hml : c.maxLocals = 1 := hml0
  have hown : s.vm.findClass "com/example/kwota/kwota/server/CheckPath" = some m.cls := findClass_of_methodNamed Bd.named
  have hnm := (name_of_methodNamed Bd.named Bd.method).1
  have X00 : Stand p l e ({ frames := 0, cells := 0, slots := 0, locals := 0 } : Room) s m #[(.ref a_ONE)] below meth c s₁ [] 0 0 := Stand.of_body Bd
  have e00 : s₁.heap = h0 := by rw [← hh, Bd.state]; rfl
  have N00 := Fr.nil n0
  refine Classical.byContradiction fun hNG => ?_
  have K00 := Keep.refl h0 []
  have k00 : ∀ t, own_At p e below m s₁ 0 #[.val (.ref a_ONE)] [] t → own_En p e below m s₁ #[(.ref a_ONE)] 1 t := fun t k => castTop (ef_f1 m a_ONE ) k
  obtain ⟨S__VALUES, E__VALUES, S_ONE, E_ONE, S_BATCH, E_BATCH, F_ONE_path, E_ONE_path, F_BATCH_path, E_BATCH_path, F_ONE_path_coder, F_ONE_path_value, F_BATCH_path_coder, F_BATCH_path_value, ne_BATCH_path_ONE_path, S_COMPACT_STRINGS, nz_COMPACT_STRINGS, S_SIOOBE_FORMATTER, iS_SIOOBE_FORMATTER, C__VALUES, C_ONE_path_value, C_BATCH_path_value⟩ := (id hE : EV Z a__VALUES a_ONE a_BATCH a_ONE_path a_BATCH_path a_ONE_path_value a_BATCH_path_value z_COMPACT_STRINGS r_SIOOBE_FORMATTER)
  obtain ⟨kw_ONE_path, Aw_ONE_path⟩ := C_ONE_path_value.arv
  obtain ⟨kw_BATCH_path, Aw_BATCH_path⟩ := C_BATCH_path_value.arv
  obtain ⟨T10, X10, e10, st10⟩ := getF X00 hx hZ hown (host := "") (Or.inl (own_w hw 23 rfl)) Via.refl e00 (F_ONE_path.ext O0.2) (g := (mkF m 1 #[.val (.ref a_ONE)] [(.ref a_ONE)])) rfl rfl (hb hby d_prog_58_method_4_code_1)
  have k11 : ∀ t, own_At p e below m T10 4 #[.val (.ref a_ONE)] [(.ref a_ONE_path)] t → own_En p e below m s₁ #[(.ref a_ONE)] 1 t := by
    intro t k
    refine k00 t ?_
    refine XS.aloadN X00.here hx rfl (hb hby d_prog_58_method_4_code_0) rfl rfl ?_
    show own_At p e below m s₁ 1 #[.val (.ref a_ONE)] [(.ref a_ONE)] t
    refine st10 _ ?_
    show own_At p e below m T10 4 #[.val (.ref a_ONE)] [(.ref a_ONE_path)] t
    exact k
  obtain ⟨fs, hr, hrun, hended, hW, hsame⟩ := X10.leave (v := some (.ref a_ONE_path)) (fun h => by rw [Bd.returns] at h; cases h)
  refine hNG ⟨_, _, k11 _ ?_, hrun, hended, _, _, rfl, ?_, ⟨_, rfl⟩, hW, hsame.mono (by decide) (by decide)⟩
  · exact retOut X10 hx (t := (.object "java/lang/String")) Bd.returns rfl (Or.inr (Or.inr (Or.inr (Or.inr ⟨rfl, rfl, rfl⟩)))) (hb hby d_prog_58_method_4_code_4) hr
  · show Q_f1 Z a__VALUES a_ONE a_BATCH a_ONE_path a_BATCH_path a_ONE_path_value a_BATCH_path_value z_COMPACT_STRINGS r_SIOOBE_FORMATTER h0 n0 _ T10.heap _
    rw [e10]
    exact ⟨rfl, N00, rfl⟩
theorem pd___Ljava_lang_String_ : parseMethodDescriptor "()Ljava/lang/String;" = some ⟨[], some (.object "java/lang/String")⟩ := by decide +kernel
theorem ef_f2 (m : MethodId) (x0 : Addr)  : entryFrame m #[(.ref x0)] 1 = mkF m 0 #[.val (.ref x0)] [] := by first | (simp [entryFrame, mkF, argsToLocals, Value.category]; done) | rfl
def Q_f2 (Z : State) (a__VALUES : Addr) (a_ONE : Addr) (a_BATCH : Addr) (a_ONE_path : Addr) (a_BATCH_path : Addr) (a_ONE_path_value : Addr) (a_BATCH_path_value : Addr) (z_COMPACT_STRINGS : Int32) (r_SIOOBE_FORMATTER : Value) (h0 : Heap) (n0 : Nat) (v : Option Value) (h : Heap) (L : List Loc) : Prop := v = some (.ref a_BATCH_path) ∧ Fr n0 L ∧ h = h0
set_option maxRecDepth 65536 in
set_option maxHeartbeats 40000000 in
theorem rm_f2 (l : Launch) (Z : State) (a0 : Array Value) (hw : ∀ d ∈ tables_1, d.before a0 Z = true) (ws : List Jvm.Cond) (a__VALUES : Addr) (a_ONE : Addr) (a_BATCH : Addr) (a_ONE_path : Addr) (a_BATCH_path : Addr) (a_ONE_path_value : Addr) (a_BATCH_path_value : Addr) (z_COMPACT_STRINGS : Int32) (r_SIOOBE_FORMATTER : Value) (h0 : Heap) (n0 : Nat) (O0 : Old Z n0 h0) (hE : EV Z a__VALUES a_ONE a_BATCH a_ONE_path a_BATCH_path a_ONE_path_value a_BATCH_path_value z_COMPACT_STRINGS r_SIOOBE_FORMATTER) :
    MetFree l own_m5 (head1 (Jvm.Cond.code own_m5 prog_58_method_4_code 1 (some (.object "java/lang/String")) :: ws) ({ frames := 0, cells := 0, slots := 0, locals := 0 } : Room)) (fun a U => a = #[(.ref a_BATCH)] ∧ Z.Warmed39 U.vm ∧ U.heap = h0) (fun _ _ _ _ _ => True) (fun _ U o U' => ∃ v L, o = .returned v ∧ Q_f2 Z a__VALUES a_ONE a_BATCH a_ONE_path a_BATCH_path a_ONE_path_value a_BATCH_path_value z_COMPACT_STRINGS r_SIOOBE_FORMATTER h0 n0 v U'.heap L ∧ FrameEnd U o U' L ({ frames := 0, cells := 0, slots := 0, locals := 0 } : Room).cells ({ frames := 0, cells := 0, slots := 0, locals := 0 } : Room).slots) := by
  refine MetFree.of_bodySF (plainFor_of_name pn_com_example_kwota_kwota_server_CheckPath) hisR ?_
  intro p e s m args below meth c s₁ Bd hml0 hP hK
  obtain ⟨rfl, hZ, hh⟩ := hP
  have hx := Bd.exec
  have hby := Bd.bytes
  have hml : c.maxLocals = 1 := hml0
  have hown : s.vm.findClass "com/example/kwota/kwota/server/CheckPath" = some m.cls := findClass_of_methodNamed Bd.named
  have hnm := (name_of_methodNamed Bd.named Bd.method).1
  have X00 : Stand p l e ({ frames := 0, cells := 0, slots := 0, locals := 0 } : Room) s m #[(.ref a_BATCH)] below meth c s₁ [] 0 0 := Stand.of_body Bd
  have e00 : s₁.heap = h0 := by rw [← hh, Bd.state]; rfl
  have N00 := Fr.nil n0
  refine Classical.byContradiction fun hNG => ?_
  have K00 := Keep.refl h0 []
  have k00 : ∀ t, own_At p e below m s₁ 0 #[.val (.ref a_BATCH)] [] t → own_En p e below m s₁ #[(.ref a_BATCH)] 1 t := fun t k => castTop (ef_f2 m a_BATCH ) k
  obtain ⟨S__VALUES, E__VALUES, S_ONE, E_ONE, S_BATCH, E_BATCH, F_ONE_path, E_ONE_path, F_BATCH_path, E_BATCH_path, F_ONE_path_coder, F_ONE_path_value, F_BATCH_path_coder, F_BATCH_path_value, ne_BATCH_path_ONE_path, S_COMPACT_STRINGS, nz_COMPACT_STRINGS, S_SIOOBE_FORMATTER, iS_SIOOBE_FORMATTER, C__VALUES, C_ONE_path_value, C_BATCH_path_value⟩ := (id hE : EV Z a__VALUES a_ONE a_BATCH a_ONE_path a_BATCH_path a_ONE_path_value a_BATCH_path_value z_COMPACT_STRINGS r_SIOOBE_FORMATTER)
  obtain ⟨kw_ONE_path, Aw_ONE_path⟩ := C_ONE_path_value.arv
  obtain ⟨kw_BATCH_path, Aw_BATCH_path⟩ := C_BATCH_path_value.arv
  obtain ⟨T10, X10, e10, st10⟩ := getF X00 hx hZ hown (host := "") (Or.inl (own_w hw 23 rfl)) Via.refl e00 (F_BATCH_path.ext O0.2) (g := (mkF m 1 #[.val (.ref a_BATCH)] [(.ref a_BATCH)])) rfl rfl (hb hby d_prog_58_method_4_code_1)
  have k11 : ∀ t, own_At p e below m T10 4 #[.val (.ref a_BATCH)] [(.ref a_BATCH_path)] t → own_En p e below m s₁ #[(.ref a_BATCH)] 1 t := by
    intro t k
    refine k00 t ?_
    refine XS.aloadN X00.here hx rfl (hb hby d_prog_58_method_4_code_0) rfl rfl ?_
    show own_At p e below m s₁ 1 #[.val (.ref a_BATCH)] [(.ref a_BATCH)] t
    refine st10 _ ?_
    show own_At p e below m T10 4 #[.val (.ref a_BATCH)] [(.ref a_BATCH_path)] t
    exact k
  obtain ⟨fs, hr, hrun, hended, hW, hsame⟩ := X10.leave (v := some (.ref a_BATCH_path)) (fun h => by rw [Bd.returns] at h; cases h)
  refine hNG ⟨_, _, k11 _ ?_, hrun, hended, _, _, rfl, ?_, ⟨_, rfl⟩, hW, hsame.mono (by decide) (by decide)⟩
  · exact retOut X10 hx (t := (.object "java/lang/String")) Bd.returns rfl (Or.inr (Or.inr (Or.inr (Or.inr ⟨rfl, rfl, rfl⟩)))) (hb hby d_prog_58_method_4_code_4) hr
  · show Q_f2 Z a__VALUES a_ONE a_BATCH a_ONE_path a_BATCH_path a_ONE_path_value a_BATCH_path_value z_COMPACT_STRINGS r_SIOOBE_FORMATTER h0 n0 _ T10.heap _
    rw [e10]
    exact ⟨rfl, N00, rfl⟩
theorem pd__Ljava_lang_String__Lcom_example_kwota_kwota_server_CheckPath_ : parseMethodDescriptor "(Ljava/lang/String;)Lcom/example/kwota/kwota/server/CheckPath;" = some ⟨[(.object "java/lang/String")], some (.object "com/example/kwota/kwota/server/CheckPath")⟩ := by decide +kernel
theorem pn_com_example_kwota_kwota_server_CheckPathPathsPinLaw : plainName "com/example/kwota/kwota/server/CheckPathPathsPinLaw" = true := by first | (simp [plainName, overriddenIn]; done) | decide +kernel
def Q_law (Z : State) (p0 : Int32) (a__VALUES : Addr) (a_ONE : Addr) (a_BATCH : Addr) (a_ONE_path : Addr) (a_BATCH_path : Addr) (a_ONE_path_value : Addr) (a_BATCH_path_value : Addr) (z_COMPACT_STRINGS : Int32) (r_SIOOBE_FORMATTER : Value) (h0 : Heap) (n0 : Nat) (v : Option Value) (h : Heap) (L : List Loc) : Prop := v = some (.int (1 : Int32)) ∧ Fr n0 L
set_option maxRecDepth 65536 in
set_option maxHeartbeats 40000000 in
theorem rm_law (l : Launch) (Z : State) (a0 : Array Value) (hw : ∀ d ∈ tables_1, d.before a0 Z = true) (ws : List Jvm.Cond) (p0 : Int32) (a__VALUES : Addr) (a_ONE : Addr) (a_BATCH : Addr) (a_ONE_path : Addr) (a_BATCH_path : Addr) (a_ONE_path_value : Addr) (a_BATCH_path_value : Addr) (z_COMPACT_STRINGS : Int32) (r_SIOOBE_FORMATTER : Value) (h0 : Heap) (n0 : Nat) (O0 : Old Z n0 h0) (hE : EV Z a__VALUES a_ONE a_BATCH a_ONE_path a_BATCH_path a_ONE_path_value a_BATCH_path_value z_COMPACT_STRINGS r_SIOOBE_FORMATTER) (hn0 : n0 = h0.size) (hcw : Jvm.Lit.compactW.before a0 Z = true) (hh13 : Jvm.Lit.constHeld Z "com/example/kwota/kwota/server/CheckPathPathsPinLaw" 13) (hh21 : Jvm.Lit.constHeld Z "com/example/kwota/kwota/server/CheckPathPathsPinLaw" 21) :
    MetFree l x (head1 (Jvm.Cond.code x code maxLocals ret :: ws) room_1) (fun a U => a = #[(.int p0)] ∧ Z.Warmed39 U.vm ∧ U.heap = h0 ∧ IB Z U.vm []) (fun _ _ _ _ _ => True) (fun _ U o U' => ∃ v L, o = .returned v ∧ Q_law Z p0 a__VALUES a_ONE a_BATCH a_ONE_path a_BATCH_path a_ONE_path_value a_BATCH_path_value z_COMPACT_STRINGS r_SIOOBE_FORMATTER h0 n0 v U'.heap L ∧ ReturnedEndW U o U' L 9 94) := by
  refine MetFree.of_bodySF (plainFor_of_name pn_com_example_kwota_kwota_server_CheckPathPathsPinLaw) hisR ?_
  intro p e s m args below meth c s₁ Bd hml0 hP hK
  obtain ⟨rfl, hZ, hh, hI⟩ := hP
  have hx := Bd.exec
  have hby := Bd.bytes
  have hml : c.maxLocals = 5 := hml0
  have hown : s.vm.findClass "com/example/kwota/kwota/server/CheckPathPathsPinLaw" = some m.cls := findClass_of_methodNamed Bd.named
  have hnm := (name_of_methodNamed Bd.named Bd.method).1
  have X00 : Stand p l e room_1 s m #[(.int p0)] below meth c s₁ [] 0 0 := Stand.of_body Bd
  have e00 : s₁.heap = h0 := by rw [← hh, Bd.state]; rfl
  have N00 := Fr.nil n0
  refine Classical.byContradiction fun hNG => ?_
  have K00 := Keep.refl h0 []
  have k00 : ∀ t, own_At p e below m s₁ 0 #[.val (.int p0), .unset, .unset, .unset, .unset] [] t → own_En p e below m s₁ #[(.int p0)] maxLocals t := fun t k => castTop (ef_law m p0 ) k
  have hS : s.Since s.vm 0 := (State.WarmedH.refl s).since 0
  have X00 : Stand p l e room_1 (s.setVm s.vm) m #[(.int p0)] below meth c s₁ [] 0 0 := X00
  have hZ : Z.Warmed39 (s.setVm s.vm).vm := hZ
  have hown : (s.setVm s.vm).vm.findClass "com/example/kwota/kwota/server/CheckPathPathsPinLaw" = some m.cls := hown
  obtain ⟨S__VALUES, E__VALUES, S_ONE, E_ONE, S_BATCH, E_BATCH, F_ONE_path, E_ONE_path, F_BATCH_path, E_BATCH_path, F_ONE_path_coder, F_ONE_path_value, F_BATCH_path_coder, F_BATCH_path_value, ne_BATCH_path_ONE_path, S_COMPACT_STRINGS, nz_COMPACT_STRINGS, S_SIOOBE_FORMATTER, iS_SIOOBE_FORMATTER, C__VALUES, C_ONE_path_value, C_BATCH_path_value⟩ := (id hE : EV Z a__VALUES a_ONE a_BATCH a_ONE_path a_BATCH_path a_ONE_path_value a_BATCH_path_value z_COMPACT_STRINGS r_SIOOBE_FORMATTER)
  obtain ⟨kw_ONE_path, Aw_ONE_path⟩ := C_ONE_path_value.arv
  obtain ⟨kw_BATCH_path, Aw_BATCH_path⟩ := C_BATCH_path_value.arv
  obtain ⟨_, _, ⟨T10, L10, k10, n10⟩, -, X10, ⟨Lc10, hQ10, l10, y10, z10⟩, st10⟩ := Jvm.LawKit.callS X00 hx (y := own_m1) hown (mvT hZ (own_w hw 0 rfl)) (mvT hZ (own_w hw 1 rfl)) (mvT hZ (own_w hw 2 rfl)) (mvT hZ (own_w hw 3 rfl)) (by decide) (backOf (W := 0) (rm_pt l Z a0 hw []  _ _ _ _ _ _ _ _ _ h0 n0 O0 hE  ) hZ (own_w hw 3 rfl) (own_w hw 2 rfl) (by decide) (by decide)) (g := (mkF m 0 #[.val (.int p0), .unset, .unset, .unset, .unset] [])) rfl (by rw [hml]; rfl) (argsL := []) (rest := []) (lenOf pd____Ljava_lang_String_ rfl) rfl (by show 2 * 0 + _ ≤ _; exact Nat.le_of_eq rfl) (hb hby at_0) (fun _ _ => ⟨rfl, e00, (by decide : 0 + 2 ≤ _), (by decide : 0 + 4 ≤ _)⟩)
  dsimp only [Pt.U, Pt.locs, Pt.cells, Pt.slots] at X10 l10 y10 z10 st10 hQ10
  subst l10 y10 z10
  obtain ⟨b10, k10, rfl, N10q, O10, Kc10, g_b10, gs_b10, F10_0⟩ := hQ10
  have N10 := Fr.app N00 N10q
  have K10 := K00.trans Kc10 (fun x hx => nomatch hx)
  have s_b10 := Nat.le_trans K00.1 gs_b10
  have lt_b10 := F10_0.lt
  obtain ⟨cl11, Ar11, q11, Sz11, Nn11, Hs11, Gf11⟩ := id F10_0
  obtain ⟨cl12, Ar12, q12, Sz12, Nn12, Hs12, Gf12⟩ := id F10_0
  have hin13 : ¬ ((0 : Int32) < 0 ∨ cl12.slots.size ≤ ((0 : Int32)).toNatClampNeg) := inb_of Sz12 ⟨by decide, by decide⟩
  have hat14 : cl12.slots[((0 : Int32)).toNatClampNeg]? = some (.ref a_ONE_path) := Hs12.at hin13 rfl
  obtain ⟨cl15, Ar15, q15, Sz15, Nn15, Hs15, Gf15⟩ := id F10_0
  have hin16 : ¬ ((1 : Int32) < 0 ∨ cl15.slots.size ≤ ((1 : Int32)).toNatClampNeg) := inb_of Sz15 ⟨by decide, by decide⟩
  have hat17 : cl15.slots[((1 : Int32)).toNatClampNeg]? = some (.ref a_BATCH_path) := Hs15.at hin16 rfl
  have k18 : ∀ t, own_At p e below m T10 30 #[.val (.int p0), .val (.ref b10), .unset, .unset, .unset] [] t → own_En p e below m s₁ #[(.int p0)] maxLocals t := by
    intro t k
    refine k00 t ?_
    refine st10 _ ?_
    show own_At p e below m T10 3 #[.val (.int p0), .unset, .unset, .unset, .unset] [(.ref b10)] t
    refine XS.astoreN X10.here hx rfl (hb hby at_3) rfl rfl (l' := #[.val (.int p0), .val (.ref b10), .unset, .unset, .unset]) rfl ?_
    show own_At p e below m T10 4 #[.val (.int p0), .val (.ref b10), .unset, .unset, .unset] [] t
    refine XS.aloadN X10.here hx rfl (hb hby at_4) rfl rfl ?_
    show own_At p e below m T10 5 #[.val (.int p0), .val (.ref b10), .unset, .unset, .unset] [(.ref b10)] t
    refine XS.ifnullNo X10.here hx rfl (hb hby at_5) rfl ?_
    show own_At p e below m T10 8 #[.val (.int p0), .val (.ref b10), .unset, .unset, .unset] [] t
    refine XS.aloadN X10.here hx rfl (hb hby at_8) rfl rfl ?_
    show own_At p e below m T10 9 #[.val (.int p0), .val (.ref b10), .unset, .unset, .unset] [(.ref b10)] t
    refine X10.arraylength hx (by exact Ar11.1) (State.isArrayOf_alike hZ.alike Ar11.2.1) (g := (mkF m 9 #[.val (.int p0), .val (.ref b10), .unset, .unset, .unset] [(.ref b10)])) rfl rfl (hb hby at_9) _ ?_
    rw [len_of Sz11 Nn11]
    show own_At p e below m T10 10 #[.val (.int p0), .val (.ref b10), .unset, .unset, .unset] [(.int (2 : Int32))] t
    refine XS.iconst X10.here hx rfl (hb hby at_10) ?_
    show own_At p e below m T10 11 #[.val (.int p0), .val (.ref b10), .unset, .unset, .unset] [(.int (2 : Int32)), (.int (2 : Int32))] t
    refine XS.icmpYes X10.here hx rfl (pc0 := 11) (pc' := 16) rfl (hb hby at_11) rfl (teq (by decide : (2 : Int32) = (2 : Int32))).1 (by decide) (by decide) ?_
    show own_At p e below m T10 16 #[.val (.int p0), .val (.ref b10), .unset, .unset, .unset] [] t
    refine XS.aloadN X10.here hx rfl (hb hby at_16) rfl rfl ?_
    show own_At p e below m T10 17 #[.val (.int p0), .val (.ref b10), .unset, .unset, .unset] [(.ref b10)] t
    refine XS.iconst X10.here hx rfl (hb hby at_17) ?_
    show own_At p e below m T10 18 #[.val (.int p0), .val (.ref b10), .unset, .unset, .unset] [(.int (0 : Int32)), (.ref b10)] t
    refine X10.aaload hx (j := (0 : Int32)) (v := (.ref a_ONE_path)) (by exact Ar12.1) (State.isArrayOf_alike hZ.alike Ar12.2.1) rfl Ar12.2.2 hin13 hat14 (g := (mkF m 18 #[.val (.int p0), .val (.ref b10), .unset, .unset, .unset] [(.int (0 : Int32)), (.ref b10)])) rfl rfl (hb hby at_18) _ ?_
    show own_At p e below m T10 19 #[.val (.int p0), .val (.ref b10), .unset, .unset, .unset] [(.ref a_ONE_path)] t
    refine XS.ifnullNo X10.here hx rfl (hb hby at_19) rfl ?_
    show own_At p e below m T10 22 #[.val (.int p0), .val (.ref b10), .unset, .unset, .unset] [] t
    refine XS.aloadN X10.here hx rfl (hb hby at_22) rfl rfl ?_
    show own_At p e below m T10 23 #[.val (.int p0), .val (.ref b10), .unset, .unset, .unset] [(.ref b10)] t
    refine XS.iconst X10.here hx rfl (hb hby at_23) ?_
    show own_At p e below m T10 24 #[.val (.int p0), .val (.ref b10), .unset, .unset, .unset] [(.int (1 : Int32)), (.ref b10)] t
    refine X10.aaload hx (j := (1 : Int32)) (v := (.ref a_BATCH_path)) (by exact Ar15.1) (State.isArrayOf_alike hZ.alike Ar15.2.1) rfl Ar15.2.2 hin16 hat17 (g := (mkF m 24 #[.val (.int p0), .val (.ref b10), .unset, .unset, .unset] [(.int (1 : Int32)), (.ref b10)])) rfl rfl (hb hby at_24) _ ?_
    show own_At p e below m T10 25 #[.val (.int p0), .val (.ref b10), .unset, .unset, .unset] [(.ref a_BATCH_path)] t
    refine XS.ifnonnullYes X10.here hx rfl (pc0 := 25) (pc' := 30) rfl (hb hby at_25) rfl (by decide) (by decide) ?_
    show own_At p e below m T10 30 #[.val (.int p0), .val (.ref b10), .unset, .unset, .unset] [] t
    exact k
  obtain ⟨a19, T19, h19, q19, t19, kb19, X19, e19, E19, hS, hk19, hZ, hown, Ex19, Fc19, Fv19, Av19, la19, lb19, hI, st19⟩ := ldcSV X10 hx hZ hown (own_w hw 26 rfl) (own_str hw) rfl hS (Nat.le_trans (Nat.zero_le _) Kc10.1) (by rw [hh, ← hn0]; exact N10) (fun b cl q => by rw [hh]; exact O0.2.2 b cl q) hI (by decide) hh13 hcw (vs := [(.int (47 : Int32)), (.int (118 : Int32)), (.int (49 : Int32)), (.int (47 : Int32)), (.int (99 : Int32)), (.int (104 : Int32)), (.int (101 : Int32)), (.int (99 : Int32)), (.int (107 : Int32))]) (z := (9 : Int32)) ⟨by decide, by decide⟩ (by decide) (by decide) (g := (mkF m 30 #[.val (.int p0), .val (.ref b10), .unset, .unset, .unset] [])) rfl (hb hby at_30) (n := 36) (by decide) (by decide) (by decide) (by decide)
  have O19 := O10.ext E19
  have K19 := K10.ext E19
  have f20 := (F10_0.ext E19)
  obtain ⟨cl21, Ar21, q21, Sz21, Nn21, Hs21, Gf21⟩ := id f20
  have hin22 : ¬ ((0 : Int32) < 0 ∨ cl21.slots.size ≤ ((0 : Int32)).toNatClampNeg) := inb_of Sz21 ⟨by decide, by decide⟩
  have hat23 : cl21.slots[((0 : Int32)).toNatClampNeg]? = some (.ref a_ONE_path) := Hs21.at hin22 rfl
  have k24 : ∀ t, own_At p e below m T19 35 #[.val (.int p0), .val (.ref b10), .unset, .unset, .unset] [(.ref a_ONE_path), (.ref a19)] t → own_En p e below m s₁ #[(.int p0)] maxLocals t := by
    intro t k
    refine k18 t ?_
    refine st19 _ ?_
    show own_At p e below m T19 32 #[.val (.int p0), .val (.ref b10), .unset, .unset, .unset] [(.ref a19)] t
    refine XS.aloadN X19.here hx rfl (hb hby at_32) rfl rfl ?_
    show own_At p e below m T19 33 #[.val (.int p0), .val (.ref b10), .unset, .unset, .unset] [(.ref b10), (.ref a19)] t
    refine XS.iconst X19.here hx rfl (hb hby at_33) ?_
    show own_At p e below m T19 34 #[.val (.int p0), .val (.ref b10), .unset, .unset, .unset] [(.int (0 : Int32)), (.ref b10), (.ref a19)] t
    refine X19.aaload hx (j := (0 : Int32)) (v := (.ref a_ONE_path)) (by rw [e19]; exact Ar21.1) (State.isArrayOf_alike hZ.alike Ar21.2.1) rfl Ar21.2.2 hin22 hat23 (g := (mkF m 34 #[.val (.int p0), .val (.ref b10), .unset, .unset, .unset] [(.int (0 : Int32)), (.ref b10), (.ref a19)])) rfl rfl (hb hby at_34) _ ?_
    show own_At p e below m T19 35 #[.val (.int p0), .val (.ref b10), .unset, .unset, .unset] [(.ref a_ONE_path), (.ref a19)] t
    exact k
  obtain ⟨cq25, kq25, q25a, q25b, q25c⟩ := isOf hZ e19 Ex19
  obtain ⟨_, _, ⟨T25, L25, k25, n25⟩, -, X25, ⟨Lc25, hQ25, l25, y25, z25⟩, st25⟩ := X19.virtualBack hx (y := own_m2) (z := own_m2) hown (mvT hZ (own_w hw 34 rfl)) (mvT hZ (own_w hw 35 rfl)) (notFace_of_selects (args := #[]) (mvT hZ (own_w hw 37 rfl))) (mvT hZ (own_w hw 37 rfl)) (mvT hZ (own_w hw 36 rfl)) (by decide) (backOf (W := 0) (rm_eq2 l Z a0 hw [] a19 a_ONE_path t19 a_ONE_path_value kb19 kw_ONE_path _ _ _ _ _ _ _ _ _ h19 n0 O19 hE Ex19 Fc19 Fv19 Av19 (E_ONE_path.ext O19.2) (F_ONE_path_coder.ext O19.2) (F_ONE_path_value.ext O19.2) (Aw_ONE_path.ext O19.2) ) hZ (own_w hw 38 rfl) (own_w hw 27 rfl) (by decide) (by decide)) q25a q25c (g := (mkF m 35 #[.val (.int p0), .val (.ref b10), .unset, .unset, .unset] [(.ref a_ONE_path), (.ref a19)])) rfl (by rw [hml]; rfl) (Steps.refl _) (argsL := [(.ref a_ONE_path)]) (rest := []) (lenOf pd__Ljava_lang_Object__Z rfl) rfl (by show 2 * 0 + _ ≤ _; exact Nat.le_of_eq rfl) (hb hby at_35) (fun _ _ => ⟨rfl, e19, (by decide : 4 + 0 ≤ _), (by decide : 44 + 0 ≤ _)⟩)
  dsimp only [Pt.U, Pt.locs, Pt.cells, Pt.slots] at X25 l25 y25 z25 st25 hQ25
  subst l25 y25 z25
  obtain ⟨rfl, N25q, hp25⟩ := hQ25
  have N25 := Fr.app N10 N25q
  obtain ⟨a26, T26, h26, q26, t26, kb26, X26, e26, E26, hS, hk26, hZ, hown, Ex26, Fc26, Fv26, Av26, la26, lb26, hI, st26⟩ := ldcSV X25 hx hZ hown (own_w hw 47 rfl) (own_str hw) hp25 hS hk19 (by rw [hh, ← hn0]; exact N25) (fun b cl q => by rw [hh]; exact O0.2.2 b cl q) hI (by decide) hh21 hcw (vs := [(.int (47 : Int32)), (.int (118 : Int32)), (.int (49 : Int32)), (.int (47 : Int32)), (.int (99 : Int32)), (.int (104 : Int32)), (.int (101 : Int32)), (.int (99 : Int32)), (.int (107 : Int32)), (.int (115 : Int32))]) (z := (10 : Int32)) ⟨by decide, by decide⟩ (by decide) (by decide) (g := (mkF m 41 #[.val (.int p0), .val (.ref b10), .unset, .unset, .unset] [])) rfl (hb hby at_41) (n := 40) (by decide) (by decide) (by decide) (by decide)
  have O26 := O19.ext E26
  have K26 := K19.ext E26
  have f27 := (f20.ext E26)
  obtain ⟨cl28, Ar28, q28, Sz28, Nn28, Hs28, Gf28⟩ := id f27
  have hin29 : ¬ ((1 : Int32) < 0 ∨ cl28.slots.size ≤ ((1 : Int32)).toNatClampNeg) := inb_of Sz28 ⟨by decide, by decide⟩
  have hat30 : cl28.slots[((1 : Int32)).toNatClampNeg]? = some (.ref a_BATCH_path) := Hs28.at hin29 rfl
  have k31 : ∀ t, own_At p e below m T26 46 #[.val (.int p0), .val (.ref b10), .unset, .unset, .unset] [(.ref a_BATCH_path), (.ref a26)] t → own_En p e below m s₁ #[(.int p0)] maxLocals t := by
    intro t k
    refine k24 t ?_
    refine st25.trans ?_
    show own_At p e below m T25 38 #[.val (.int p0), .val (.ref b10), .unset, .unset, .unset] [(.int (1 : Int32))] t
    refine XS.ifNo X25.here hx rfl (hb hby at_38) rfl ((if0 _ _).trans (feq (by decide : ¬ ((1 : Int32) = (0 : Int32)))).1) ?_
    show own_At p e below m T25 41 #[.val (.int p0), .val (.ref b10), .unset, .unset, .unset] [] t
    refine st26 _ ?_
    show own_At p e below m T26 43 #[.val (.int p0), .val (.ref b10), .unset, .unset, .unset] [(.ref a26)] t
    refine XS.aloadN X26.here hx rfl (hb hby at_43) rfl rfl ?_
    show own_At p e below m T26 44 #[.val (.int p0), .val (.ref b10), .unset, .unset, .unset] [(.ref b10), (.ref a26)] t
    refine XS.iconst X26.here hx rfl (hb hby at_44) ?_
    show own_At p e below m T26 45 #[.val (.int p0), .val (.ref b10), .unset, .unset, .unset] [(.int (1 : Int32)), (.ref b10), (.ref a26)] t
    refine X26.aaload hx (j := (1 : Int32)) (v := (.ref a_BATCH_path)) (by rw [e26]; exact Ar28.1) (State.isArrayOf_alike hZ.alike Ar28.2.1) rfl Ar28.2.2 hin29 hat30 (g := (mkF m 45 #[.val (.int p0), .val (.ref b10), .unset, .unset, .unset] [(.int (1 : Int32)), (.ref b10), (.ref a26)])) rfl rfl (hb hby at_45) _ ?_
    show own_At p e below m T26 46 #[.val (.int p0), .val (.ref b10), .unset, .unset, .unset] [(.ref a_BATCH_path), (.ref a26)] t
    exact k
  obtain ⟨cq32, kq32, q32a, q32b, q32c⟩ := isOf hZ e26 Ex26
  obtain ⟨_, _, ⟨T32, L32, k32, n32⟩, -, X32, ⟨Lc32, hQ32, l32, y32, z32⟩, st32⟩ := X26.virtualBack hx (y := own_m2) (z := own_m2) hown (mvT hZ (own_w hw 34 rfl)) (mvT hZ (own_w hw 35 rfl)) (notFace_of_selects (args := #[]) (mvT hZ (own_w hw 37 rfl))) (mvT hZ (own_w hw 37 rfl)) (mvT hZ (own_w hw 36 rfl)) (by decide) (backOf (W := 0) (rm_eq3 l Z a0 hw [] a26 a_BATCH_path t26 a_BATCH_path_value kb26 kw_BATCH_path _ _ _ _ _ _ _ _ _ h26 n0 O26 hE Ex26 Fc26 Fv26 Av26 (E_BATCH_path.ext O26.2) (F_BATCH_path_coder.ext O26.2) (F_BATCH_path_value.ext O26.2) (Aw_BATCH_path.ext O26.2) ) hZ (own_w hw 38 rfl) (own_w hw 27 rfl) (by decide) (by decide)) q32a q32c (g := (mkF m 46 #[.val (.int p0), .val (.ref b10), .unset, .unset, .unset] [(.ref a_BATCH_path), (.ref a26)])) rfl (by rw [hml]; rfl) (Steps.refl _) (argsL := [(.ref a_BATCH_path)]) (rest := []) (lenOf pd__Ljava_lang_Object__Z rfl) rfl (by show 2 * 0 + _ ≤ _; exact Nat.le_of_eq rfl) (hb hby at_46) (fun _ _ => ⟨rfl, e26, (by decide : 6 + 0 ≤ _), (by decide : 88 + 0 ≤ _)⟩)
  dsimp only [Pt.U, Pt.locs, Pt.cells, Pt.slots] at X32 l32 y32 z32 st32 hQ32
  subst l32 y32 z32
  obtain ⟨rfl, N32q, hp32⟩ := hQ32
  have N32 := Fr.app N25 N32q
  obtain ⟨cl33, Ar33, q33, Sz33, Nn33, Hs33, Gf33⟩ := id f27
  have hin34 : ¬ ((0 : Int32) < 0 ∨ cl33.slots.size ≤ ((0 : Int32)).toNatClampNeg) := inb_of Sz33 ⟨by decide, by decide⟩
  have hat35 : cl33.slots[((0 : Int32)).toNatClampNeg]? = some (.ref a_ONE_path) := Hs33.at hin34 rfl
  obtain ⟨T36, X36, e36, st36⟩ := getS2 X32 hx hZ hown (host := "") (Or.inl (own_w hw 48 rfl)) Via.refl hp32 (S_ONE.ext O26.2) (g := (mkF m 57 #[.val (.int p0), .val (.ref b10), .unset, .unset, .unset] [(.ref a_ONE_path)])) rfl (hb hby at_57)
  have k37 : ∀ t, own_At p e below m T36 60 #[.val (.int p0), .val (.ref b10), .unset, .unset, .unset] [(.ref a_ONE), (.ref a_ONE_path)] t → own_En p e below m s₁ #[(.int p0)] maxLocals t := by
    intro t k
    refine k31 t ?_
    refine st32.trans ?_
    show own_At p e below m T32 49 #[.val (.int p0), .val (.ref b10), .unset, .unset, .unset] [(.int (1 : Int32))] t
    refine XS.ifYes X32.here hx rfl (pc0 := 49) (pc' := 54) rfl (hb hby at_49) rfl ((if0 _ _).trans (feq (by decide : ¬ ((1 : Int32) = (0 : Int32)))).2) (by decide) (by decide) ?_
    show own_At p e below m T32 54 #[.val (.int p0), .val (.ref b10), .unset, .unset, .unset] [] t
    refine XS.aloadN X32.here hx rfl (hb hby at_54) rfl rfl ?_
    show own_At p e below m T32 55 #[.val (.int p0), .val (.ref b10), .unset, .unset, .unset] [(.ref b10)] t
    refine XS.iconst X32.here hx rfl (hb hby at_55) ?_
    show own_At p e below m T32 56 #[.val (.int p0), .val (.ref b10), .unset, .unset, .unset] [(.int (0 : Int32)), (.ref b10)] t
    refine X32.aaload hx (j := (0 : Int32)) (v := (.ref a_ONE_path)) (by rw [hp32]; exact Ar33.1) (State.isArrayOf_alike hZ.alike Ar33.2.1) rfl Ar33.2.2 hin34 hat35 (g := (mkF m 56 #[.val (.int p0), .val (.ref b10), .unset, .unset, .unset] [(.int (0 : Int32)), (.ref b10)])) rfl rfl (hb hby at_56) _ ?_
    show own_At p e below m T32 57 #[.val (.int p0), .val (.ref b10), .unset, .unset, .unset] [(.ref a_ONE_path)] t
    refine st36 _ ?_
    show own_At p e below m T36 60 #[.val (.int p0), .val (.ref b10), .unset, .unset, .unset] [(.ref a_ONE), (.ref a_ONE_path)] t
    exact k
  obtain ⟨cq38, kq38, q38a, q38b, q38c⟩ := isOf hZ e36 (E_ONE.ext O26.2)
  obtain ⟨_, _, ⟨T38, L38, k38, n38⟩, -, X38, ⟨Lc38, hQ38, l38, y38, z38⟩, st38⟩ := X36.virtualBack hx (y := own_m5) (z := own_m5) hown (mvT hZ (own_w hw 49 rfl)) (mvT hZ (own_w hw 50 rfl)) (notFace_of_selects (args := #[]) (mvT hZ (own_w hw 52 rfl))) (mvT hZ (own_w hw 52 rfl)) (mvT hZ (own_w hw 51 rfl)) (by decide) (backOf (W := 1) (rm_f1 l Z a0 hw []  _ _ _ _ _ _ _ _ _ h26 n0 O26 hE) hZ (own_w hw 53 rfl) (own_w hw 2 rfl) (by decide) (by decide)) q38a q38c (g := (mkF m 60 #[.val (.int p0), .val (.ref b10), .unset, .unset, .unset] [(.ref a_ONE), (.ref a_ONE_path)])) rfl (by rw [hml]; rfl) (Steps.refl _) (argsL := []) (rest := [(.ref a_ONE_path)]) (lenOf pd___Ljava_lang_String_ rfl) rfl (by show 2 * 0 + _ ≤ _; exact Nat.le_of_eq rfl) (hb hby at_60) (fun _ _ => ⟨rfl, e36, (by decide : 6 + 0 ≤ _), (by decide : 88 + 0 ≤ _)⟩)
  dsimp only [Pt.U, Pt.locs, Pt.cells, Pt.slots] at X38 l38 y38 z38 st38 hQ38
  subst l38 y38 z38
  obtain ⟨rfl, N38q, hp38⟩ := hQ38
  have N38 := Fr.app N32 N38q
  obtain ⟨cq39, kq39, q39a, q39b, q39c⟩ := isOf hZ hp38 (E_ONE_path.ext O26.2)
  obtain ⟨_, _, ⟨T39, L39, k39, n39⟩, -, X39, ⟨Lc39, hQ39, l39, y39, z39⟩, st39⟩ := X38.virtualBack hx (y := own_m2) (z := own_m2) hown (mvT hZ (own_w hw 34 rfl)) (mvT hZ (own_w hw 35 rfl)) (notFace_of_selects (args := #[]) (mvT hZ (own_w hw 37 rfl))) (mvT hZ (own_w hw 37 rfl)) (mvT hZ (own_w hw 36 rfl)) (by decide) (backOf (W := 0) (rm_eqsame l Z a0 hw [] a_ONE_path _ _ _ _ _ _ _ _ _ h26 n0 O26 hE  ) hZ (own_w hw 38 rfl) (own_w hw 27 rfl) (by decide) (by decide)) q39a q39c (g := (mkF m 63 #[.val (.int p0), .val (.ref b10), .unset, .unset, .unset] [(.ref a_ONE_path), (.ref a_ONE_path)])) rfl (by rw [hml]; rfl) (Steps.refl _) (argsL := [(.ref a_ONE_path)]) (rest := []) (lenOf pd__Ljava_lang_Object__Z rfl) rfl (by show 2 * 0 + _ ≤ _; exact Nat.le_of_eq rfl) (hb hby at_63) (fun _ _ => ⟨rfl, hp38, (by decide : 6 + 0 ≤ _), (by decide : 88 + 0 ≤ _)⟩)
  dsimp only [Pt.U, Pt.locs, Pt.cells, Pt.slots] at X39 l39 y39 z39 st39 hQ39
  subst l39 y39 z39
  obtain ⟨rfl, N39q, hp39⟩ := hQ39
  have N39 := Fr.app N38 N39q
  obtain ⟨cl40, Ar40, q40, Sz40, Nn40, Hs40, Gf40⟩ := id f27
  have hin41 : ¬ ((1 : Int32) < 0 ∨ cl40.slots.size ≤ ((1 : Int32)).toNatClampNeg) := inb_of Sz40 ⟨by decide, by decide⟩
  have hat42 : cl40.slots[((1 : Int32)).toNatClampNeg]? = some (.ref a_BATCH_path) := Hs40.at hin41 rfl
  obtain ⟨T43, X43, e43, st43⟩ := getS2 X39 hx hZ hown (host := "") (Or.inl (own_w hw 54 rfl)) Via.refl hp39 (S_BATCH.ext O26.2) (g := (mkF m 72 #[.val (.int p0), .val (.ref b10), .unset, .unset, .unset] [(.ref a_BATCH_path)])) rfl (hb hby at_72)
  have k44 : ∀ t, own_At p e below m T43 75 #[.val (.int p0), .val (.ref b10), .unset, .unset, .unset] [(.ref a_BATCH), (.ref a_BATCH_path)] t → own_En p e below m s₁ #[(.int p0)] maxLocals t := by
    intro t k
    refine k37 t ?_
    refine st38.trans ?_
    show own_At p e below m T38 63 #[.val (.int p0), .val (.ref b10), .unset, .unset, .unset] [(.ref a_ONE_path), (.ref a_ONE_path)] t
    refine st39.trans ?_
    show own_At p e below m T39 66 #[.val (.int p0), .val (.ref b10), .unset, .unset, .unset] [(.int (1 : Int32))] t
    refine XS.ifNo X39.here hx rfl (hb hby at_66) rfl ((if0 _ _).trans (feq (by decide : ¬ ((1 : Int32) = (0 : Int32)))).1) ?_
    show own_At p e below m T39 69 #[.val (.int p0), .val (.ref b10), .unset, .unset, .unset] [] t
    refine XS.aloadN X39.here hx rfl (hb hby at_69) rfl rfl ?_
    show own_At p e below m T39 70 #[.val (.int p0), .val (.ref b10), .unset, .unset, .unset] [(.ref b10)] t
    refine XS.iconst X39.here hx rfl (hb hby at_70) ?_
    show own_At p e below m T39 71 #[.val (.int p0), .val (.ref b10), .unset, .unset, .unset] [(.int (1 : Int32)), (.ref b10)] t
    refine X39.aaload hx (j := (1 : Int32)) (v := (.ref a_BATCH_path)) (by rw [hp39]; exact Ar40.1) (State.isArrayOf_alike hZ.alike Ar40.2.1) rfl Ar40.2.2 hin41 hat42 (g := (mkF m 71 #[.val (.int p0), .val (.ref b10), .unset, .unset, .unset] [(.int (1 : Int32)), (.ref b10)])) rfl rfl (hb hby at_71) _ ?_
    show own_At p e below m T39 72 #[.val (.int p0), .val (.ref b10), .unset, .unset, .unset] [(.ref a_BATCH_path)] t
    refine st43 _ ?_
    show own_At p e below m T43 75 #[.val (.int p0), .val (.ref b10), .unset, .unset, .unset] [(.ref a_BATCH), (.ref a_BATCH_path)] t
    exact k
  obtain ⟨cq45, kq45, q45a, q45b, q45c⟩ := isOf hZ e43 (E_BATCH.ext O26.2)
  obtain ⟨_, _, ⟨T45, L45, k45, n45⟩, -, X45, ⟨Lc45, hQ45, l45, y45, z45⟩, st45⟩ := X43.virtualBack hx (y := own_m5) (z := own_m5) hown (mvT hZ (own_w hw 49 rfl)) (mvT hZ (own_w hw 50 rfl)) (notFace_of_selects (args := #[]) (mvT hZ (own_w hw 52 rfl))) (mvT hZ (own_w hw 52 rfl)) (mvT hZ (own_w hw 51 rfl)) (by decide) (backOf (W := 1) (rm_f2 l Z a0 hw []  _ _ _ _ _ _ _ _ _ h26 n0 O26 hE) hZ (own_w hw 53 rfl) (own_w hw 2 rfl) (by decide) (by decide)) q45a q45c (g := (mkF m 75 #[.val (.int p0), .val (.ref b10), .unset, .unset, .unset] [(.ref a_BATCH), (.ref a_BATCH_path)])) rfl (by rw [hml]; rfl) (Steps.refl _) (argsL := []) (rest := [(.ref a_BATCH_path)]) (lenOf pd___Ljava_lang_String_ rfl) rfl (by show 2 * 0 + _ ≤ _; exact Nat.le_of_eq rfl) (hb hby at_75) (fun _ _ => ⟨rfl, e43, (by decide : 6 + 0 ≤ _), (by decide : 88 + 0 ≤ _)⟩)
  dsimp only [Pt.U, Pt.locs, Pt.cells, Pt.slots] at X45 l45 y45 z45 st45 hQ45
  subst l45 y45 z45
  obtain ⟨rfl, N45q, hp45⟩ := hQ45
  have N45 := Fr.app N39 N45q
  obtain ⟨cq46, kq46, q46a, q46b, q46c⟩ := isOf hZ hp45 (E_BATCH_path.ext O26.2)
  obtain ⟨_, _, ⟨T46, L46, k46, n46⟩, -, X46, ⟨Lc46, hQ46, l46, y46, z46⟩, st46⟩ := X45.virtualBack hx (y := own_m2) (z := own_m2) hown (mvT hZ (own_w hw 34 rfl)) (mvT hZ (own_w hw 35 rfl)) (notFace_of_selects (args := #[]) (mvT hZ (own_w hw 37 rfl))) (mvT hZ (own_w hw 37 rfl)) (mvT hZ (own_w hw 36 rfl)) (by decide) (backOf (W := 0) (rm_eqsame l Z a0 hw [] a_BATCH_path _ _ _ _ _ _ _ _ _ h26 n0 O26 hE  ) hZ (own_w hw 38 rfl) (own_w hw 27 rfl) (by decide) (by decide)) q46a q46c (g := (mkF m 78 #[.val (.int p0), .val (.ref b10), .unset, .unset, .unset] [(.ref a_BATCH_path), (.ref a_BATCH_path)])) rfl (by rw [hml]; rfl) (Steps.refl _) (argsL := [(.ref a_BATCH_path)]) (rest := []) (lenOf pd__Ljava_lang_Object__Z rfl) rfl (by show 2 * 0 + _ ≤ _; exact Nat.le_of_eq rfl) (hb hby at_78) (fun _ _ => ⟨rfl, hp45, (by decide : 6 + 0 ≤ _), (by decide : 88 + 0 ≤ _)⟩)
  dsimp only [Pt.U, Pt.locs, Pt.cells, Pt.slots] at X46 l46 y46 z46 st46 hQ46
  subst l46 y46 z46
  obtain ⟨rfl, N46q, hp46⟩ := hQ46
  have N46 := Fr.app N45 N46q
  have k47 : ∀ t, own_At p e below m T46 89 #[.val (.int p0), .val (.ref b10), .unset, .unset, .unset] [(.int (p0 &&& (1 : Int32)))] t → own_En p e below m s₁ #[(.int p0)] maxLocals t := by
    intro t k
    refine k44 t ?_
    refine st45.trans ?_
    show own_At p e below m T45 78 #[.val (.int p0), .val (.ref b10), .unset, .unset, .unset] [(.ref a_BATCH_path), (.ref a_BATCH_path)] t
    refine st46.trans ?_
    show own_At p e below m T46 81 #[.val (.int p0), .val (.ref b10), .unset, .unset, .unset] [(.int (1 : Int32))] t
    refine XS.ifYes X46.here hx rfl (pc0 := 81) (pc' := 86) rfl (hb hby at_81) rfl ((if0 _ _).trans (feq (by decide : ¬ ((1 : Int32) = (0 : Int32)))).2) (by decide) (by decide) ?_
    show own_At p e below m T46 86 #[.val (.int p0), .val (.ref b10), .unset, .unset, .unset] [] t
    refine XS.iloadN X46.here hx rfl (hb hby at_86) rfl ?_
    show own_At p e below m T46 87 #[.val (.int p0), .val (.ref b10), .unset, .unset, .unset] [(.int p0)] t
    refine XS.iconst X46.here hx rfl (hb hby at_87) ?_
    show own_At p e below m T46 88 #[.val (.int p0), .val (.ref b10), .unset, .unset, .unset] [(.int (1 : Int32)), (.int p0)] t
    refine XS.iand X46.here hx rfl (hb hby at_88) rfl ?_
    show own_At p e below m T46 89 #[.val (.int p0), .val (.ref b10), .unset, .unset, .unset] [(.int (p0 &&& (1 : Int32)))] t
    exact k
  rcases and_one p0 with hs48 | hs48
  · have k49 : ∀ t, own_At p e below m T46 89 #[.val (.int p0), .val (.ref b10), .unset, .unset, .unset] [(.int (0 : Int32))] t → own_En p e below m s₁ #[(.int p0)] maxLocals t := by
      intro t k
      refine k47 t ?_
      rw [hs48]
      exact k
    obtain ⟨T50, X50, e50, st50⟩ := getS2 X46 hx hZ hown (host := "") (Or.inl (own_w hw 48 rfl)) Via.refl hp46 (S_ONE.ext O26.2) (g := (mkF m 94 #[.val (.int p0), .val (.ref b10), .val (.int (0 : Int32)), .unset, .unset] [])) rfl (hb hby at_94)
    obtain ⟨cl51, Ar51, q51, Sz51, Nn51, Hs51, Gf51⟩ := id f27
    have hin52 : ¬ ((0 : Int32) < 0 ∨ cl51.slots.size ≤ ((0 : Int32)).toNatClampNeg) := inb_of Sz51 ⟨by decide, by decide⟩
    have hat53 : cl51.slots[((0 : Int32)).toNatClampNeg]? = some (.ref a_ONE_path) := Hs51.at hin52 rfl
    have k54 : ∀ t, own_At p e below m T50 107 #[.val (.int p0), .val (.ref b10), .val (.int (0 : Int32)), .val (.ref a_ONE), .unset] [(.ref a_ONE_path)] t → own_En p e below m s₁ #[(.int p0)] maxLocals t := by
      intro t k
      refine k49 t ?_
      refine XS.istoreN X46.here hx rfl (hb hby at_89) rfl (l' := #[.val (.int p0), .val (.ref b10), .val (.int (0 : Int32)), .unset, .unset]) rfl ?_
      show own_At p e below m T46 90 #[.val (.int p0), .val (.ref b10), .val (.int (0 : Int32)), .unset, .unset] [] t
      refine XS.iloadN X46.here hx rfl (hb hby at_90) rfl ?_
      show own_At p e below m T46 91 #[.val (.int p0), .val (.ref b10), .val (.int (0 : Int32)), .unset, .unset] [(.int (0 : Int32))] t
      refine XS.ifNo X46.here hx rfl (hb hby at_91) rfl ((if0 _ _).trans (teq (by decide : (0 : Int32) = (0 : Int32))).2) ?_
      show own_At p e below m T46 94 #[.val (.int p0), .val (.ref b10), .val (.int (0 : Int32)), .unset, .unset] [] t
      refine st50 _ ?_
      show own_At p e below m T50 97 #[.val (.int p0), .val (.ref b10), .val (.int (0 : Int32)), .unset, .unset] [(.ref a_ONE)] t
      refine XS.goto X50.here hx rfl (pc0 := 97) (pc' := 103) rfl (hb hby at_97) (by decide) (by decide) ?_
      show own_At p e below m T50 103 #[.val (.int p0), .val (.ref b10), .val (.int (0 : Int32)), .unset, .unset] [(.ref a_ONE)] t
      refine XS.astoreN X50.here hx rfl (hb hby at_103) rfl rfl (l' := #[.val (.int p0), .val (.ref b10), .val (.int (0 : Int32)), .val (.ref a_ONE), .unset]) rfl ?_
      show own_At p e below m T50 104 #[.val (.int p0), .val (.ref b10), .val (.int (0 : Int32)), .val (.ref a_ONE), .unset] [] t
      refine XS.aloadN X50.here hx rfl (hb hby at_104) rfl rfl ?_
      show own_At p e below m T50 105 #[.val (.int p0), .val (.ref b10), .val (.int (0 : Int32)), .val (.ref a_ONE), .unset] [(.ref b10)] t
      refine XS.iloadN X50.here hx rfl (hb hby at_105) rfl ?_
      show own_At p e below m T50 106 #[.val (.int p0), .val (.ref b10), .val (.int (0 : Int32)), .val (.ref a_ONE), .unset] [(.int (0 : Int32)), (.ref b10)] t
      refine X50.aaload hx (j := (0 : Int32)) (v := (.ref a_ONE_path)) (by rw [e50]; exact Ar51.1) (State.isArrayOf_alike hZ.alike Ar51.2.1) rfl Ar51.2.2 hin52 hat53 (g := (mkF m 106 #[.val (.int p0), .val (.ref b10), .val (.int (0 : Int32)), .val (.ref a_ONE), .unset] [(.int (0 : Int32)), (.ref b10)])) rfl rfl (hb hby at_106) _ ?_
      show own_At p e below m T50 107 #[.val (.int p0), .val (.ref b10), .val (.int (0 : Int32)), .val (.ref a_ONE), .unset] [(.ref a_ONE_path)] t
      exact k
    obtain ⟨_, _, ⟨T55, L55, k55, n55⟩, -, X55, ⟨Lc55, hQ55, l55, y55, z55⟩, st55⟩ := Jvm.LawKit.callS X50 hx (y := own_m3) hown (mvT hZ (own_w hw 55 rfl)) (mvT hZ (own_w hw 56 rfl)) (mvT hZ (own_w hw 2 rfl)) (mvT hZ (own_w hw 57 rfl)) (by decide) (backOf (W := 0) (rm_of_ONE l Z a0 hw []  _ _ _ _ _ _ _ _ _ h26 n0 O26 hE  ) hZ (own_w hw 57 rfl) (own_w hw 2 rfl) (by decide) (by decide)) (g := (mkF m 107 #[.val (.int p0), .val (.ref b10), .val (.int (0 : Int32)), .val (.ref a_ONE), .unset] [(.ref a_ONE_path)])) rfl (by rw [hml]; rfl) (argsL := [(.ref a_ONE_path)]) (rest := []) (lenOf pd__Ljava_lang_String__Lcom_example_kwota_kwota_server_CheckPath_ rfl) rfl (by show 2 * 0 + _ ≤ _; exact Nat.le_of_eq rfl) (hb hby at_107) (fun _ _ => ⟨rfl, e50, (by decide : 6 + 1 ≤ _), (by decide : 88 + 2 ≤ _)⟩)
    dsimp only [Pt.U, Pt.locs, Pt.cells, Pt.slots] at X55 l55 y55 z55 st55 hQ55
    subst l55 y55 z55
    obtain ⟨rfl, N55q, O55, Kc55⟩ := hQ55
    have N55 := Fr.app N46 N55q
    have K55 := K26.trans Kc55 (fun x hx => nomatch hx)
    have f56 := (f27.keep Kc55 List.not_mem_nil)
    obtain ⟨cl57, Ar57, q57, Sz57, Nn57, Hs57, Gf57⟩ := id f56
    have hin58 : ¬ ((0 : Int32) < 0 ∨ cl57.slots.size ≤ ((0 : Int32)).toNatClampNeg) := inb_of Sz57 ⟨by decide, by decide⟩
    obtain ⟨T59, h59, X59, e59, W59, st59⟩ := stR X55 hx hZ rfl Ar57 (j := (0 : Int32)) hin58 rfl (Or.inl rfl) (g := (mkF m 119 #[.val (.int p0), .val (.ref b10), .val (.int (0 : Int32)), .val (.ref a_ONE), .unset] [.null, (.int (0 : Int32)), (.ref b10)])) rfl rfl (hb hby at_119)
    have V59 : Arv Z h59 b10 k10 (.object "java/lang/String") (2 : Int32) [.null, (.ref a_BATCH_path)] .null := Arv.set Ar57 q57 Sz57 Nn57 Hs57 Gf57 rfl W59 0 rfl (Nat.le_of_ble_eq_true rfl)
    have N59 := Fr.snoc X59 N55 g_b10
    have O59 := O55.wr W59 g_b10
    have K59 := K55.wr W59 (Or.inr s_b10)
    obtain ⟨_, _, ⟨T60, L60, k60, n60⟩, -, X60, ⟨Lc60, hQ60, l60, y60, z60⟩, st60⟩ := Jvm.LawKit.callS X59 hx (y := own_m1) hown (mvT hZ (own_w hw 0 rfl)) (mvT hZ (own_w hw 1 rfl)) (mvT hZ (own_w hw 2 rfl)) (mvT hZ (own_w hw 3 rfl)) (by decide) (backOf (W := 0) (rm_pt l Z a0 hw []  _ _ _ _ _ _ _ _ _ h59 n0 O59 hE  ) hZ (own_w hw 3 rfl) (own_w hw 2 rfl) (by decide) (by decide)) (g := (mkF m 120 #[.val (.int p0), .val (.ref b10), .val (.int (0 : Int32)), .val (.ref a_ONE), .unset] [])) rfl (by rw [hml]; rfl) (argsL := []) (rest := []) (lenOf pd____Ljava_lang_String_ rfl) rfl (by show 2 * 0 + _ ≤ _; exact Nat.le_of_eq rfl) (hb hby at_120) (fun _ _ => ⟨rfl, e59, (by decide : 7 + 2 ≤ _), (by decide : 90 + 4 ≤ _)⟩)
    dsimp only [Pt.U, Pt.locs, Pt.cells, Pt.slots] at X60 l60 y60 z60 st60 hQ60
    subst l60 y60 z60
    obtain ⟨b60, k60, rfl, N60q, O60, Kc60, g_b60, gs_b60, F60_0⟩ := hQ60
    have N60 := Fr.app N59 N60q
    have K60 := K59.trans Kc60 (fun x hx => nomatch hx)
    have s_b60 := Nat.le_trans K59.1 gs_b60
    have lt_b60 := F60_0.lt
    obtain ⟨cl61, Ar61, q61, Sz61, Nn61, Hs61, Gf61⟩ := id F60_0
    obtain ⟨cl62, Ar62, q62, Sz62, Nn62, Hs62, Gf62⟩ := id F60_0
    have hin63 : ¬ ((0 : Int32) < 0 ∨ cl62.slots.size ≤ ((0 : Int32)).toNatClampNeg) := inb_of Sz62 ⟨by decide, by decide⟩
    have hat64 : cl62.slots[((0 : Int32)).toNatClampNeg]? = some (.ref a_ONE_path) := Hs62.at hin63 rfl
    obtain ⟨cl65, Ar65, q65, Sz65, Nn65, Hs65, Gf65⟩ := id F60_0
    have hin66 : ¬ ((0 : Int32) < 0 ∨ cl65.slots.size ≤ ((0 : Int32)).toNatClampNeg) := inb_of Sz65 ⟨by decide, by decide⟩
    have hat67 : cl65.slots[((0 : Int32)).toNatClampNeg]? = some (.ref a_ONE_path) := Hs65.at hin66 rfl
    have k68 : ∀ t, own_At p e below m T60 151 #[.val (.int p0), .val (.ref b10), .val (.int (0 : Int32)), .val (.ref a_ONE), .val (.ref b60)] [(.ref a_ONE), (.ref a_ONE_path)] t → own_En p e below m s₁ #[(.int p0)] maxLocals t := by
      intro t k
      refine k54 t ?_
      refine st55 _ ?_
      show own_At p e below m T55 110 #[.val (.int p0), .val (.ref b10), .val (.int (0 : Int32)), .val (.ref a_ONE), .unset] [(.ref a_ONE)] t
      refine XS.aloadN X55.here hx rfl (hb hby at_110) rfl rfl ?_
      show own_At p e below m T55 111 #[.val (.int p0), .val (.ref b10), .val (.int (0 : Int32)), .val (.ref a_ONE), .unset] [(.ref a_ONE), (.ref a_ONE)] t
      refine Jvm.RoadKit.acmp (g := (mkF m 111 #[.val (.int p0), .val (.ref b10), .val (.int (0 : Int32)), .val (.ref a_ONE), .unset] [(.ref a_ONE), (.ref a_ONE)])) X55 hx rfl rfl rfl (pc0 := 111) (pc' := 116) (same := true) rfl (hb hby at_111) rfl (decide_eq_true rfl) (by decide) (by decide) ?_
      show own_At p e below m T55 116 #[.val (.int p0), .val (.ref b10), .val (.int (0 : Int32)), .val (.ref a_ONE), .unset] [] t
      refine XS.aloadN X55.here hx rfl (hb hby at_116) rfl rfl ?_
      show own_At p e below m T55 117 #[.val (.int p0), .val (.ref b10), .val (.int (0 : Int32)), .val (.ref a_ONE), .unset] [(.ref b10)] t
      refine XS.iloadN X55.here hx rfl (hb hby at_117) rfl ?_
      show own_At p e below m T55 118 #[.val (.int p0), .val (.ref b10), .val (.int (0 : Int32)), .val (.ref a_ONE), .unset] [(.int (0 : Int32)), (.ref b10)] t
      refine XS.aconstNull X55.here hx rfl (hb hby at_118) ?_
      show own_At p e below m T55 119 #[.val (.int p0), .val (.ref b10), .val (.int (0 : Int32)), .val (.ref a_ONE), .unset] [.null, (.int (0 : Int32)), (.ref b10)] t
      refine st59 _ ?_
      show own_At p e below m T59 120 #[.val (.int p0), .val (.ref b10), .val (.int (0 : Int32)), .val (.ref a_ONE), .unset] [] t
      refine st60 _ ?_
      show own_At p e below m T60 123 #[.val (.int p0), .val (.ref b10), .val (.int (0 : Int32)), .val (.ref a_ONE), .unset] [(.ref b60)] t
      refine XS.astore X60.here hx rfl (hb hby at_123) rfl rfl (l' := #[.val (.int p0), .val (.ref b10), .val (.int (0 : Int32)), .val (.ref a_ONE), .val (.ref b60)]) rfl ?_
      show own_At p e below m T60 125 #[.val (.int p0), .val (.ref b10), .val (.int (0 : Int32)), .val (.ref a_ONE), .val (.ref b60)] [] t
      refine XS.aload X60.here hx rfl (hb hby at_125) rfl rfl ?_
      show own_At p e below m T60 127 #[.val (.int p0), .val (.ref b10), .val (.int (0 : Int32)), .val (.ref a_ONE), .val (.ref b60)] [(.ref b60)] t
      refine XS.ifnullNo X60.here hx rfl (hb hby at_127) rfl ?_
      show own_At p e below m T60 130 #[.val (.int p0), .val (.ref b10), .val (.int (0 : Int32)), .val (.ref a_ONE), .val (.ref b60)] [] t
      refine XS.aload X60.here hx rfl (hb hby at_130) rfl rfl ?_
      show own_At p e below m T60 132 #[.val (.int p0), .val (.ref b10), .val (.int (0 : Int32)), .val (.ref a_ONE), .val (.ref b60)] [(.ref b60)] t
      refine X60.arraylength hx (by exact Ar61.1) (State.isArrayOf_alike hZ.alike Ar61.2.1) (g := (mkF m 132 #[.val (.int p0), .val (.ref b10), .val (.int (0 : Int32)), .val (.ref a_ONE), .val (.ref b60)] [(.ref b60)])) rfl rfl (hb hby at_132) _ ?_
      rw [len_of Sz61 Nn61]
      show own_At p e below m T60 133 #[.val (.int p0), .val (.ref b10), .val (.int (0 : Int32)), .val (.ref a_ONE), .val (.ref b60)] [(.int (2 : Int32))] t
      refine XS.iconst X60.here hx rfl (hb hby at_133) ?_
      show own_At p e below m T60 134 #[.val (.int p0), .val (.ref b10), .val (.int (0 : Int32)), .val (.ref a_ONE), .val (.ref b60)] [(.int (2 : Int32)), (.int (2 : Int32))] t
      refine XS.icmpNo X60.here hx rfl (hb hby at_134) rfl (teq (by decide : (2 : Int32) = (2 : Int32))).2 ?_
      show own_At p e below m T60 137 #[.val (.int p0), .val (.ref b10), .val (.int (0 : Int32)), .val (.ref a_ONE), .val (.ref b60)] [] t
      refine XS.aload X60.here hx rfl (hb hby at_137) rfl rfl ?_
      show own_At p e below m T60 139 #[.val (.int p0), .val (.ref b10), .val (.int (0 : Int32)), .val (.ref a_ONE), .val (.ref b60)] [(.ref b60)] t
      refine XS.iloadN X60.here hx rfl (hb hby at_139) rfl ?_
      show own_At p e below m T60 140 #[.val (.int p0), .val (.ref b10), .val (.int (0 : Int32)), .val (.ref a_ONE), .val (.ref b60)] [(.int (0 : Int32)), (.ref b60)] t
      refine X60.aaload hx (j := (0 : Int32)) (v := (.ref a_ONE_path)) (by exact Ar62.1) (State.isArrayOf_alike hZ.alike Ar62.2.1) rfl Ar62.2.2 hin63 hat64 (g := (mkF m 140 #[.val (.int p0), .val (.ref b10), .val (.int (0 : Int32)), .val (.ref a_ONE), .val (.ref b60)] [(.int (0 : Int32)), (.ref b60)])) rfl rfl (hb hby at_140) _ ?_
      show own_At p e below m T60 141 #[.val (.int p0), .val (.ref b10), .val (.int (0 : Int32)), .val (.ref a_ONE), .val (.ref b60)] [(.ref a_ONE_path)] t
      refine XS.ifnonnullYes X60.here hx rfl (pc0 := 141) (pc' := 146) rfl (hb hby at_141) rfl (by decide) (by decide) ?_
      show own_At p e below m T60 146 #[.val (.int p0), .val (.ref b10), .val (.int (0 : Int32)), .val (.ref a_ONE), .val (.ref b60)] [] t
      refine XS.aload X60.here hx rfl (hb hby at_146) rfl rfl ?_
      show own_At p e below m T60 148 #[.val (.int p0), .val (.ref b10), .val (.int (0 : Int32)), .val (.ref a_ONE), .val (.ref b60)] [(.ref b60)] t
      refine XS.iloadN X60.here hx rfl (hb hby at_148) rfl ?_
      show own_At p e below m T60 149 #[.val (.int p0), .val (.ref b10), .val (.int (0 : Int32)), .val (.ref a_ONE), .val (.ref b60)] [(.int (0 : Int32)), (.ref b60)] t
      refine X60.aaload hx (j := (0 : Int32)) (v := (.ref a_ONE_path)) (by exact Ar65.1) (State.isArrayOf_alike hZ.alike Ar65.2.1) rfl Ar65.2.2 hin66 hat67 (g := (mkF m 149 #[.val (.int p0), .val (.ref b10), .val (.int (0 : Int32)), .val (.ref a_ONE), .val (.ref b60)] [(.int (0 : Int32)), (.ref b60)])) rfl rfl (hb hby at_149) _ ?_
      show own_At p e below m T60 150 #[.val (.int p0), .val (.ref b10), .val (.int (0 : Int32)), .val (.ref a_ONE), .val (.ref b60)] [(.ref a_ONE_path)] t
      refine XS.aloadN X60.here hx rfl (hb hby at_150) rfl rfl ?_
      show own_At p e below m T60 151 #[.val (.int p0), .val (.ref b10), .val (.int (0 : Int32)), .val (.ref a_ONE), .val (.ref b60)] [(.ref a_ONE), (.ref a_ONE_path)] t
      exact k
    obtain ⟨cq69, kq69, q69a, q69b, q69c⟩ := isOf hZ rfl (E_ONE.ext O60.2)
    obtain ⟨_, _, ⟨T69, L69, k69, n69⟩, -, X69, ⟨Lc69, hQ69, l69, y69, z69⟩, st69⟩ := X60.virtualBack hx (y := own_m5) (z := own_m5) hown (mvT hZ (own_w hw 49 rfl)) (mvT hZ (own_w hw 50 rfl)) (notFace_of_selects (args := #[]) (mvT hZ (own_w hw 52 rfl))) (mvT hZ (own_w hw 52 rfl)) (mvT hZ (own_w hw 51 rfl)) (by decide) (backOf (W := 1) (rm_f1 l Z a0 hw []  _ _ _ _ _ _ _ _ _ T60.heap n0 O60 hE) hZ (own_w hw 53 rfl) (own_w hw 2 rfl) (by decide) (by decide)) q69a q69c (g := (mkF m 151 #[.val (.int p0), .val (.ref b10), .val (.int (0 : Int32)), .val (.ref a_ONE), .val (.ref b60)] [(.ref a_ONE), (.ref a_ONE_path)])) rfl (by rw [hml]; rfl) (Steps.refl _) (argsL := []) (rest := [(.ref a_ONE_path)]) (lenOf pd___Ljava_lang_String_ rfl) rfl (by show 2 * 0 + _ ≤ _; exact Nat.le_of_eq rfl) (hb hby at_151) (fun _ _ => ⟨rfl, rfl, (by decide : 9 + 0 ≤ _), (by decide : 94 + 0 ≤ _)⟩)
    dsimp only [Pt.U, Pt.locs, Pt.cells, Pt.slots] at X69 l69 y69 z69 st69 hQ69
    subst l69 y69 z69
    obtain ⟨rfl, N69q, hp69⟩ := hQ69
    have N69 := Fr.app N60 N69q
    obtain ⟨cq70, kq70, q70a, q70b, q70c⟩ := isOf hZ hp69 (E_ONE_path.ext O60.2)
    obtain ⟨_, _, ⟨T70, L70, k70, n70⟩, -, X70, ⟨Lc70, hQ70, l70, y70, z70⟩, st70⟩ := X69.virtualBack hx (y := own_m2) (z := own_m2) hown (mvT hZ (own_w hw 34 rfl)) (mvT hZ (own_w hw 35 rfl)) (notFace_of_selects (args := #[]) (mvT hZ (own_w hw 37 rfl))) (mvT hZ (own_w hw 37 rfl)) (mvT hZ (own_w hw 36 rfl)) (by decide) (backOf (W := 0) (rm_eqsame l Z a0 hw [] a_ONE_path _ _ _ _ _ _ _ _ _ T60.heap n0 O60 hE  ) hZ (own_w hw 38 rfl) (own_w hw 27 rfl) (by decide) (by decide)) q70a q70c (g := (mkF m 154 #[.val (.int p0), .val (.ref b10), .val (.int (0 : Int32)), .val (.ref a_ONE), .val (.ref b60)] [(.ref a_ONE_path), (.ref a_ONE_path)])) rfl (by rw [hml]; rfl) (Steps.refl _) (argsL := [(.ref a_ONE_path)]) (rest := []) (lenOf pd__Ljava_lang_Object__Z rfl) rfl (by show 2 * 0 + _ ≤ _; exact Nat.le_of_eq rfl) (hb hby at_154) (fun _ _ => ⟨rfl, hp69, (by decide : 9 + 0 ≤ _), (by decide : 94 + 0 ≤ _)⟩)
    dsimp only [Pt.U, Pt.locs, Pt.cells, Pt.slots] at X70 l70 y70 z70 st70 hQ70
    subst l70 y70 z70
    obtain ⟨rfl, N70q, hp70⟩ := hQ70
    have N70 := Fr.app N69 N70q
    have k71 : ∀ t, own_At p e below m T70 157 #[.val (.int p0), .val (.ref b10), .val (.int (0 : Int32)), .val (.ref a_ONE), .val (.ref b60)] [(.int (1 : Int32))] t → own_En p e below m s₁ #[(.int p0)] maxLocals t := by
      intro t k
      refine k68 t ?_
      refine st69.trans ?_
      show own_At p e below m T69 154 #[.val (.int p0), .val (.ref b10), .val (.int (0 : Int32)), .val (.ref a_ONE), .val (.ref b60)] [(.ref a_ONE_path), (.ref a_ONE_path)] t
      refine st70.trans ?_
      show own_At p e below m T70 157 #[.val (.int p0), .val (.ref b10), .val (.int (0 : Int32)), .val (.ref a_ONE), .val (.ref b60)] [(.int (1 : Int32))] t
      exact k
    obtain ⟨fs, hr, hrun, hended, hRW⟩ := X70.leaveW hS (by rw [hp70]; exact (Nat.le_trans (Nat.le_trans (Nat.le_trans hk26 Kc55.1) (Keep.of_wr W59).1) Kc60.1)) (v := some (.int (1 : Int32))) (fun h => by rw [Bd.returns] at h; cases h)
    refine hNG ⟨_, _, k71 _ ?_, hrun, hended, _, _, rfl, ?_, hRW.1, hRW.2.1, hRW.2.2.1, hRW.2.2.2.mono (by decide) (by decide)⟩
    · exact retN X70 hx (t := .boolean) Bd.returns (by simp) (hb hby at_157) hr
    · show Q_law Z p0 a__VALUES a_ONE a_BATCH a_ONE_path a_BATCH_path a_ONE_path_value a_BATCH_path_value z_COMPACT_STRINGS r_SIOOBE_FORMATTER h0 n0 _ T70.heap _
      rw [hp70]
      exact ⟨rfl, N70⟩
  · have k72 : ∀ t, own_At p e below m T46 89 #[.val (.int p0), .val (.ref b10), .unset, .unset, .unset] [(.int (1 : Int32))] t → own_En p e below m s₁ #[(.int p0)] maxLocals t := by
      intro t k
      refine k47 t ?_
      rw [hs48]
      exact k
    obtain ⟨T73, X73, e73, st73⟩ := getS2 X46 hx hZ hown (host := "") (Or.inl (own_w hw 54 rfl)) Via.refl hp46 (S_BATCH.ext O26.2) (g := (mkF m 100 #[.val (.int p0), .val (.ref b10), .val (.int (1 : Int32)), .unset, .unset] [])) rfl (hb hby at_100)
    obtain ⟨cl74, Ar74, q74, Sz74, Nn74, Hs74, Gf74⟩ := id f27
    have hin75 : ¬ ((1 : Int32) < 0 ∨ cl74.slots.size ≤ ((1 : Int32)).toNatClampNeg) := inb_of Sz74 ⟨by decide, by decide⟩
    have hat76 : cl74.slots[((1 : Int32)).toNatClampNeg]? = some (.ref a_BATCH_path) := Hs74.at hin75 rfl
    have k77 : ∀ t, own_At p e below m T73 107 #[.val (.int p0), .val (.ref b10), .val (.int (1 : Int32)), .val (.ref a_BATCH), .unset] [(.ref a_BATCH_path)] t → own_En p e below m s₁ #[(.int p0)] maxLocals t := by
      intro t k
      refine k72 t ?_
      refine XS.istoreN X46.here hx rfl (hb hby at_89) rfl (l' := #[.val (.int p0), .val (.ref b10), .val (.int (1 : Int32)), .unset, .unset]) rfl ?_
      show own_At p e below m T46 90 #[.val (.int p0), .val (.ref b10), .val (.int (1 : Int32)), .unset, .unset] [] t
      refine XS.iloadN X46.here hx rfl (hb hby at_90) rfl ?_
      show own_At p e below m T46 91 #[.val (.int p0), .val (.ref b10), .val (.int (1 : Int32)), .unset, .unset] [(.int (1 : Int32))] t
      refine XS.ifYes X46.here hx rfl (pc0 := 91) (pc' := 100) rfl (hb hby at_91) rfl ((if0 _ _).trans (feq (by decide : ¬ ((1 : Int32) = (0 : Int32)))).2) (by decide) (by decide) ?_
      show own_At p e below m T46 100 #[.val (.int p0), .val (.ref b10), .val (.int (1 : Int32)), .unset, .unset] [] t
      refine st73 _ ?_
      show own_At p e below m T73 103 #[.val (.int p0), .val (.ref b10), .val (.int (1 : Int32)), .unset, .unset] [(.ref a_BATCH)] t
      refine XS.astoreN X73.here hx rfl (hb hby at_103) rfl rfl (l' := #[.val (.int p0), .val (.ref b10), .val (.int (1 : Int32)), .val (.ref a_BATCH), .unset]) rfl ?_
      show own_At p e below m T73 104 #[.val (.int p0), .val (.ref b10), .val (.int (1 : Int32)), .val (.ref a_BATCH), .unset] [] t
      refine XS.aloadN X73.here hx rfl (hb hby at_104) rfl rfl ?_
      show own_At p e below m T73 105 #[.val (.int p0), .val (.ref b10), .val (.int (1 : Int32)), .val (.ref a_BATCH), .unset] [(.ref b10)] t
      refine XS.iloadN X73.here hx rfl (hb hby at_105) rfl ?_
      show own_At p e below m T73 106 #[.val (.int p0), .val (.ref b10), .val (.int (1 : Int32)), .val (.ref a_BATCH), .unset] [(.int (1 : Int32)), (.ref b10)] t
      refine X73.aaload hx (j := (1 : Int32)) (v := (.ref a_BATCH_path)) (by rw [e73]; exact Ar74.1) (State.isArrayOf_alike hZ.alike Ar74.2.1) rfl Ar74.2.2 hin75 hat76 (g := (mkF m 106 #[.val (.int p0), .val (.ref b10), .val (.int (1 : Int32)), .val (.ref a_BATCH), .unset] [(.int (1 : Int32)), (.ref b10)])) rfl rfl (hb hby at_106) _ ?_
      show own_At p e below m T73 107 #[.val (.int p0), .val (.ref b10), .val (.int (1 : Int32)), .val (.ref a_BATCH), .unset] [(.ref a_BATCH_path)] t
      exact k
    obtain ⟨_, _, ⟨T78, L78, k78, n78⟩, -, X78, ⟨Lc78, hQ78, l78, y78, z78⟩, st78⟩ := Jvm.LawKit.callS X73 hx (y := own_m3) hown (mvT hZ (own_w hw 55 rfl)) (mvT hZ (own_w hw 56 rfl)) (mvT hZ (own_w hw 2 rfl)) (mvT hZ (own_w hw 57 rfl)) (by decide) (backOf (W := 0) (rm_of_BATCH l Z a0 hw []  _ _ _ _ _ _ _ _ _ h26 n0 O26 hE  ) hZ (own_w hw 57 rfl) (own_w hw 2 rfl) (by decide) (by decide)) (g := (mkF m 107 #[.val (.int p0), .val (.ref b10), .val (.int (1 : Int32)), .val (.ref a_BATCH), .unset] [(.ref a_BATCH_path)])) rfl (by rw [hml]; rfl) (argsL := [(.ref a_BATCH_path)]) (rest := []) (lenOf pd__Ljava_lang_String__Lcom_example_kwota_kwota_server_CheckPath_ rfl) rfl (by show 2 * 0 + _ ≤ _; exact Nat.le_of_eq rfl) (hb hby at_107) (fun _ _ => ⟨rfl, e73, (by decide : 6 + 1 ≤ _), (by decide : 88 + 2 ≤ _)⟩)
    dsimp only [Pt.U, Pt.locs, Pt.cells, Pt.slots] at X78 l78 y78 z78 st78 hQ78
    subst l78 y78 z78
    obtain ⟨rfl, N78q, O78, Kc78⟩ := hQ78
    have N78 := Fr.app N46 N78q
    have K78 := K26.trans Kc78 (fun x hx => nomatch hx)
    have f79 := (f27.keep Kc78 List.not_mem_nil)
    obtain ⟨cl80, Ar80, q80, Sz80, Nn80, Hs80, Gf80⟩ := id f79
    have hin81 : ¬ ((1 : Int32) < 0 ∨ cl80.slots.size ≤ ((1 : Int32)).toNatClampNeg) := inb_of Sz80 ⟨by decide, by decide⟩
    obtain ⟨T82, h82, X82, e82, W82, st82⟩ := stR X78 hx hZ rfl Ar80 (j := (1 : Int32)) hin81 rfl (Or.inl rfl) (g := (mkF m 119 #[.val (.int p0), .val (.ref b10), .val (.int (1 : Int32)), .val (.ref a_BATCH), .unset] [.null, (.int (1 : Int32)), (.ref b10)])) rfl rfl (hb hby at_119)
    have V82 : Arv Z h82 b10 k10 (.object "java/lang/String") (2 : Int32) [(.ref a_ONE_path), .null] .null := Arv.set Ar80 q80 Sz80 Nn80 Hs80 Gf80 rfl W82 1 rfl (Nat.le_of_ble_eq_true rfl)
    have N82 := Fr.snoc X82 N78 g_b10
    have O82 := O78.wr W82 g_b10
    have K82 := K78.wr W82 (Or.inr s_b10)
    obtain ⟨_, _, ⟨T83, L83, k83, n83⟩, -, X83, ⟨Lc83, hQ83, l83, y83, z83⟩, st83⟩ := Jvm.LawKit.callS X82 hx (y := own_m1) hown (mvT hZ (own_w hw 0 rfl)) (mvT hZ (own_w hw 1 rfl)) (mvT hZ (own_w hw 2 rfl)) (mvT hZ (own_w hw 3 rfl)) (by decide) (backOf (W := 0) (rm_pt l Z a0 hw []  _ _ _ _ _ _ _ _ _ h82 n0 O82 hE  ) hZ (own_w hw 3 rfl) (own_w hw 2 rfl) (by decide) (by decide)) (g := (mkF m 120 #[.val (.int p0), .val (.ref b10), .val (.int (1 : Int32)), .val (.ref a_BATCH), .unset] [])) rfl (by rw [hml]; rfl) (argsL := []) (rest := []) (lenOf pd____Ljava_lang_String_ rfl) rfl (by show 2 * 0 + _ ≤ _; exact Nat.le_of_eq rfl) (hb hby at_120) (fun _ _ => ⟨rfl, e82, (by decide : 7 + 2 ≤ _), (by decide : 90 + 4 ≤ _)⟩)
    dsimp only [Pt.U, Pt.locs, Pt.cells, Pt.slots] at X83 l83 y83 z83 st83 hQ83
    subst l83 y83 z83
    obtain ⟨b83, k83, rfl, N83q, O83, Kc83, g_b83, gs_b83, F83_0⟩ := hQ83
    have N83 := Fr.app N82 N83q
    have K83 := K82.trans Kc83 (fun x hx => nomatch hx)
    have s_b83 := Nat.le_trans K82.1 gs_b83
    have lt_b83 := F83_0.lt
    obtain ⟨cl84, Ar84, q84, Sz84, Nn84, Hs84, Gf84⟩ := id F83_0
    obtain ⟨cl85, Ar85, q85, Sz85, Nn85, Hs85, Gf85⟩ := id F83_0
    have hin86 : ¬ ((1 : Int32) < 0 ∨ cl85.slots.size ≤ ((1 : Int32)).toNatClampNeg) := inb_of Sz85 ⟨by decide, by decide⟩
    have hat87 : cl85.slots[((1 : Int32)).toNatClampNeg]? = some (.ref a_BATCH_path) := Hs85.at hin86 rfl
    obtain ⟨cl88, Ar88, q88, Sz88, Nn88, Hs88, Gf88⟩ := id F83_0
    have hin89 : ¬ ((1 : Int32) < 0 ∨ cl88.slots.size ≤ ((1 : Int32)).toNatClampNeg) := inb_of Sz88 ⟨by decide, by decide⟩
    have hat90 : cl88.slots[((1 : Int32)).toNatClampNeg]? = some (.ref a_BATCH_path) := Hs88.at hin89 rfl
    have k91 : ∀ t, own_At p e below m T83 151 #[.val (.int p0), .val (.ref b10), .val (.int (1 : Int32)), .val (.ref a_BATCH), .val (.ref b83)] [(.ref a_BATCH), (.ref a_BATCH_path)] t → own_En p e below m s₁ #[(.int p0)] maxLocals t := by
      intro t k
      refine k77 t ?_
      refine st78 _ ?_
      show own_At p e below m T78 110 #[.val (.int p0), .val (.ref b10), .val (.int (1 : Int32)), .val (.ref a_BATCH), .unset] [(.ref a_BATCH)] t
      refine XS.aloadN X78.here hx rfl (hb hby at_110) rfl rfl ?_
      show own_At p e below m T78 111 #[.val (.int p0), .val (.ref b10), .val (.int (1 : Int32)), .val (.ref a_BATCH), .unset] [(.ref a_BATCH), (.ref a_BATCH)] t
      refine Jvm.RoadKit.acmp (g := (mkF m 111 #[.val (.int p0), .val (.ref b10), .val (.int (1 : Int32)), .val (.ref a_BATCH), .unset] [(.ref a_BATCH), (.ref a_BATCH)])) X78 hx rfl rfl rfl (pc0 := 111) (pc' := 116) (same := true) rfl (hb hby at_111) rfl (decide_eq_true rfl) (by decide) (by decide) ?_
      show own_At p e below m T78 116 #[.val (.int p0), .val (.ref b10), .val (.int (1 : Int32)), .val (.ref a_BATCH), .unset] [] t
      refine XS.aloadN X78.here hx rfl (hb hby at_116) rfl rfl ?_
      show own_At p e below m T78 117 #[.val (.int p0), .val (.ref b10), .val (.int (1 : Int32)), .val (.ref a_BATCH), .unset] [(.ref b10)] t
      refine XS.iloadN X78.here hx rfl (hb hby at_117) rfl ?_
      show own_At p e below m T78 118 #[.val (.int p0), .val (.ref b10), .val (.int (1 : Int32)), .val (.ref a_BATCH), .unset] [(.int (1 : Int32)), (.ref b10)] t
      refine XS.aconstNull X78.here hx rfl (hb hby at_118) ?_
      show own_At p e below m T78 119 #[.val (.int p0), .val (.ref b10), .val (.int (1 : Int32)), .val (.ref a_BATCH), .unset] [.null, (.int (1 : Int32)), (.ref b10)] t
      refine st82 _ ?_
      show own_At p e below m T82 120 #[.val (.int p0), .val (.ref b10), .val (.int (1 : Int32)), .val (.ref a_BATCH), .unset] [] t
      refine st83 _ ?_
      show own_At p e below m T83 123 #[.val (.int p0), .val (.ref b10), .val (.int (1 : Int32)), .val (.ref a_BATCH), .unset] [(.ref b83)] t
      refine XS.astore X83.here hx rfl (hb hby at_123) rfl rfl (l' := #[.val (.int p0), .val (.ref b10), .val (.int (1 : Int32)), .val (.ref a_BATCH), .val (.ref b83)]) rfl ?_
      show own_At p e below m T83 125 #[.val (.int p0), .val (.ref b10), .val (.int (1 : Int32)), .val (.ref a_BATCH), .val (.ref b83)] [] t
      refine XS.aload X83.here hx rfl (hb hby at_125) rfl rfl ?_
      show own_At p e below m T83 127 #[.val (.int p0), .val (.ref b10), .val (.int (1 : Int32)), .val (.ref a_BATCH), .val (.ref b83)] [(.ref b83)] t
      refine XS.ifnullNo X83.here hx rfl (hb hby at_127) rfl ?_
      show own_At p e below m T83 130 #[.val (.int p0), .val (.ref b10), .val (.int (1 : Int32)), .val (.ref a_BATCH), .val (.ref b83)] [] t
      refine XS.aload X83.here hx rfl (hb hby at_130) rfl rfl ?_
      show own_At p e below m T83 132 #[.val (.int p0), .val (.ref b10), .val (.int (1 : Int32)), .val (.ref a_BATCH), .val (.ref b83)] [(.ref b83)] t
      refine X83.arraylength hx (by exact Ar84.1) (State.isArrayOf_alike hZ.alike Ar84.2.1) (g := (mkF m 132 #[.val (.int p0), .val (.ref b10), .val (.int (1 : Int32)), .val (.ref a_BATCH), .val (.ref b83)] [(.ref b83)])) rfl rfl (hb hby at_132) _ ?_
      rw [len_of Sz84 Nn84]
      show own_At p e below m T83 133 #[.val (.int p0), .val (.ref b10), .val (.int (1 : Int32)), .val (.ref a_BATCH), .val (.ref b83)] [(.int (2 : Int32))] t
      refine XS.iconst X83.here hx rfl (hb hby at_133) ?_
      show own_At p e below m T83 134 #[.val (.int p0), .val (.ref b10), .val (.int (1 : Int32)), .val (.ref a_BATCH), .val (.ref b83)] [(.int (2 : Int32)), (.int (2 : Int32))] t
      refine XS.icmpNo X83.here hx rfl (hb hby at_134) rfl (teq (by decide : (2 : Int32) = (2 : Int32))).2 ?_
      show own_At p e below m T83 137 #[.val (.int p0), .val (.ref b10), .val (.int (1 : Int32)), .val (.ref a_BATCH), .val (.ref b83)] [] t
      refine XS.aload X83.here hx rfl (hb hby at_137) rfl rfl ?_
      show own_At p e below m T83 139 #[.val (.int p0), .val (.ref b10), .val (.int (1 : Int32)), .val (.ref a_BATCH), .val (.ref b83)] [(.ref b83)] t
      refine XS.iloadN X83.here hx rfl (hb hby at_139) rfl ?_
      show own_At p e below m T83 140 #[.val (.int p0), .val (.ref b10), .val (.int (1 : Int32)), .val (.ref a_BATCH), .val (.ref b83)] [(.int (1 : Int32)), (.ref b83)] t
      refine X83.aaload hx (j := (1 : Int32)) (v := (.ref a_BATCH_path)) (by exact Ar85.1) (State.isArrayOf_alike hZ.alike Ar85.2.1) rfl Ar85.2.2 hin86 hat87 (g := (mkF m 140 #[.val (.int p0), .val (.ref b10), .val (.int (1 : Int32)), .val (.ref a_BATCH), .val (.ref b83)] [(.int (1 : Int32)), (.ref b83)])) rfl rfl (hb hby at_140) _ ?_
      show own_At p e below m T83 141 #[.val (.int p0), .val (.ref b10), .val (.int (1 : Int32)), .val (.ref a_BATCH), .val (.ref b83)] [(.ref a_BATCH_path)] t
      refine XS.ifnonnullYes X83.here hx rfl (pc0 := 141) (pc' := 146) rfl (hb hby at_141) rfl (by decide) (by decide) ?_
      show own_At p e below m T83 146 #[.val (.int p0), .val (.ref b10), .val (.int (1 : Int32)), .val (.ref a_BATCH), .val (.ref b83)] [] t
      refine XS.aload X83.here hx rfl (hb hby at_146) rfl rfl ?_
      show own_At p e below m T83 148 #[.val (.int p0), .val (.ref b10), .val (.int (1 : Int32)), .val (.ref a_BATCH), .val (.ref b83)] [(.ref b83)] t
      refine XS.iloadN X83.here hx rfl (hb hby at_148) rfl ?_
      show own_At p e below m T83 149 #[.val (.int p0), .val (.ref b10), .val (.int (1 : Int32)), .val (.ref a_BATCH), .val (.ref b83)] [(.int (1 : Int32)), (.ref b83)] t
      refine X83.aaload hx (j := (1 : Int32)) (v := (.ref a_BATCH_path)) (by exact Ar88.1) (State.isArrayOf_alike hZ.alike Ar88.2.1) rfl Ar88.2.2 hin89 hat90 (g := (mkF m 149 #[.val (.int p0), .val (.ref b10), .val (.int (1 : Int32)), .val (.ref a_BATCH), .val (.ref b83)] [(.int (1 : Int32)), (.ref b83)])) rfl rfl (hb hby at_149) _ ?_
      show own_At p e below m T83 150 #[.val (.int p0), .val (.ref b10), .val (.int (1 : Int32)), .val (.ref a_BATCH), .val (.ref b83)] [(.ref a_BATCH_path)] t
      refine XS.aloadN X83.here hx rfl (hb hby at_150) rfl rfl ?_
      show own_At p e below m T83 151 #[.val (.int p0), .val (.ref b10), .val (.int (1 : Int32)), .val (.ref a_BATCH), .val (.ref b83)] [(.ref a_BATCH), (.ref a_BATCH_path)] t
      exact k
    obtain ⟨cq92, kq92, q92a, q92b, q92c⟩ := isOf hZ rfl (E_BATCH.ext O83.2)
    obtain ⟨_, _, ⟨T92, L92, k92, n92⟩, -, X92, ⟨Lc92, hQ92, l92, y92, z92⟩, st92⟩ := X83.virtualBack hx (y := own_m5) (z := own_m5) hown (mvT hZ (own_w hw 49 rfl)) (mvT hZ (own_w hw 50 rfl)) (notFace_of_selects (args := #[]) (mvT hZ (own_w hw 52 rfl))) (mvT hZ (own_w hw 52 rfl)) (mvT hZ (own_w hw 51 rfl)) (by decide) (backOf (W := 1) (rm_f2 l Z a0 hw []  _ _ _ _ _ _ _ _ _ T83.heap n0 O83 hE) hZ (own_w hw 53 rfl) (own_w hw 2 rfl) (by decide) (by decide)) q92a q92c (g := (mkF m 151 #[.val (.int p0), .val (.ref b10), .val (.int (1 : Int32)), .val (.ref a_BATCH), .val (.ref b83)] [(.ref a_BATCH), (.ref a_BATCH_path)])) rfl (by rw [hml]; rfl) (Steps.refl _) (argsL := []) (rest := [(.ref a_BATCH_path)]) (lenOf pd___Ljava_lang_String_ rfl) rfl (by show 2 * 0 + _ ≤ _; exact Nat.le_of_eq rfl) (hb hby at_151) (fun _ _ => ⟨rfl, rfl, (by decide : 9 + 0 ≤ _), (by decide : 94 + 0 ≤ _)⟩)
    dsimp only [Pt.U, Pt.locs, Pt.cells, Pt.slots] at X92 l92 y92 z92 st92 hQ92
    subst l92 y92 z92
    obtain ⟨rfl, N92q, hp92⟩ := hQ92
    have N92 := Fr.app N83 N92q
    obtain ⟨cq93, kq93, q93a, q93b, q93c⟩ := isOf hZ hp92 (E_BATCH_path.ext O83.2)
    obtain ⟨_, _, ⟨T93, L93, k93, n93⟩, -, X93, ⟨Lc93, hQ93, l93, y93, z93⟩, st93⟩ := X92.virtualBack hx (y := own_m2) (z := own_m2) hown (mvT hZ (own_w hw 34 rfl)) (mvT hZ (own_w hw 35 rfl)) (notFace_of_selects (args := #[]) (mvT hZ (own_w hw 37 rfl))) (mvT hZ (own_w hw 37 rfl)) (mvT hZ (own_w hw 36 rfl)) (by decide) (backOf (W := 0) (rm_eqsame l Z a0 hw [] a_BATCH_path _ _ _ _ _ _ _ _ _ T83.heap n0 O83 hE  ) hZ (own_w hw 38 rfl) (own_w hw 27 rfl) (by decide) (by decide)) q93a q93c (g := (mkF m 154 #[.val (.int p0), .val (.ref b10), .val (.int (1 : Int32)), .val (.ref a_BATCH), .val (.ref b83)] [(.ref a_BATCH_path), (.ref a_BATCH_path)])) rfl (by rw [hml]; rfl) (Steps.refl _) (argsL := [(.ref a_BATCH_path)]) (rest := []) (lenOf pd__Ljava_lang_Object__Z rfl) rfl (by show 2 * 0 + _ ≤ _; exact Nat.le_of_eq rfl) (hb hby at_154) (fun _ _ => ⟨rfl, hp92, (by decide : 9 + 0 ≤ _), (by decide : 94 + 0 ≤ _)⟩)
    dsimp only [Pt.U, Pt.locs, Pt.cells, Pt.slots] at X93 l93 y93 z93 st93 hQ93
    subst l93 y93 z93
    obtain ⟨rfl, N93q, hp93⟩ := hQ93
    have N93 := Fr.app N92 N93q
    have k94 : ∀ t, own_At p e below m T93 157 #[.val (.int p0), .val (.ref b10), .val (.int (1 : Int32)), .val (.ref a_BATCH), .val (.ref b83)] [(.int (1 : Int32))] t → own_En p e below m s₁ #[(.int p0)] maxLocals t := by
      intro t k
      refine k91 t ?_
      refine st92.trans ?_
      show own_At p e below m T92 154 #[.val (.int p0), .val (.ref b10), .val (.int (1 : Int32)), .val (.ref a_BATCH), .val (.ref b83)] [(.ref a_BATCH_path), (.ref a_BATCH_path)] t
      refine st93.trans ?_
      show own_At p e below m T93 157 #[.val (.int p0), .val (.ref b10), .val (.int (1 : Int32)), .val (.ref a_BATCH), .val (.ref b83)] [(.int (1 : Int32))] t
      exact k
    obtain ⟨fs, hr, hrun, hended, hRW⟩ := X93.leaveW hS (by rw [hp93]; exact (Nat.le_trans (Nat.le_trans (Nat.le_trans hk26 Kc78.1) (Keep.of_wr W82).1) Kc83.1)) (v := some (.int (1 : Int32))) (fun h => by rw [Bd.returns] at h; cases h)
    refine hNG ⟨_, _, k94 _ ?_, hrun, hended, _, _, rfl, ?_, hRW.1, hRW.2.1, hRW.2.2.1, hRW.2.2.2.mono (by decide) (by decide)⟩
    · exact retN X93 hx (t := .boolean) Bd.returns (by simp) (hb hby at_157) hr
    · show Q_law Z p0 a__VALUES a_ONE a_BATCH a_ONE_path a_BATCH_path a_ONE_path_value a_BATCH_path_value z_COMPACT_STRINGS r_SIOOBE_FORMATTER h0 n0 _ T93.heap _
      rw [hp93]
      exact ⟨rfl, N93⟩
set_option maxRecDepth 65536 in
set_option maxHeartbeats 40000000 in
theorem comes_1 {Post : Tables → Env → Array Value → State → Outcome → State → Prop} (hpost : ∀ tb e args s v u, (limb_1_1.after args s (.returned v) u = true ∧ limb_1_2.after args s (.returned v) u = true ∧ True) → ReturnedEndW s (.returned v) u (Jvm.fieldLocs frame_1_writes args s ++ Jvm.arrayLocs frame_1_arrays args s ++ Jvm.staticLocs frame_1_statics s) 24 2176 → Post tb e args s (.returned v) u) :
    ArmFor flags0 classFile x code maxLocals ret World_1 tables_1 room_1 Calls_1 rest_1 Pre_1 Post := by
  intro l hfl _ _ p e ha hc hk s m args below hf hA hF happ hP
  obtain ⟨hcalls, hrest, hpre⟩ := hP
  obtain ⟨-, -, -, hnamed, -, -, -, hat⟩ := (Spec.applies_iff hf).mp happ
  obtain ⟨hg, hn⟩ := and_e (Cond.before_iff.mp (show (Jvm.Cond.and given_1 narrow_1).before args s = true from hpre))
  obtain ⟨g0a, g0b⟩ := and_e hg
  obtain ⟨w0, rfl⟩ : ∃ w0 : Value, args = #[w0] := by
    have hs : args.size = 1 := by simpa [Cond.value, given_1] using g0a
    obtain ⟨L⟩ := args
    match L, hs with
    | [w0], _ => exact ⟨w0, rfl⟩
  have hw := fun d (hd : d ∈ tables_1) => atoms_spec (ws := Jvm.Cond.code x code maxLocals ret :: tables_1) hat d (List.mem_cons_of_mem _ hd)
  have hfit : Fit s := fun {y c} hc i hi => by
    obtain ⟨ha, rfl⟩ := Array.getElem?_eq_some_iff.mp hc
    have q := List.all_eq_true.mp ((Array.all_eq_true_iff_forall_mem.mp hF) _ (Array.getElem_mem ha)) i (List.mem_range.mpr hi)
    simpa [Array.getElem?_eq_getElem hi] using q
  obtain ⟨hsets, hown0⟩ := atoms_of _ (rest_1_c_eq ▸ (show rest_1_c.before _ s = true from hrest))
  obtain ⟨i0, ei0⟩ := is_v g0b
  obtain rfl : w0 = (.int i0) := Option.some.inj ei0
  obtain ⟨hn1a, hn1b⟩ := and_e hn
  obtain ⟨hn2a, hn2b⟩ := and_e hn1b
  obtain ⟨hn3a, hn3b⟩ := and_e hn2b
  obtain ⟨hn4a, hn4b⟩ := and_e hn3b
  obtain ⟨hn5a, hn5b⟩ := and_e hn4b
  obtain ⟨hn6a, hn6b⟩ := and_e hn5b
  obtain ⟨hn7a, hn7b⟩ := and_e hn6b
  obtain ⟨hn8a, hn8b⟩ := and_e hn7b
  obtain ⟨hn9a, hn9b⟩ := and_e hn8b
  obtain ⟨hn10a, hn10b⟩ := and_e hn9b
  obtain ⟨hn11a, hn11b⟩ := and_e hn10b
  obtain ⟨hn12a, hn12b⟩ := and_e hn11b
  obtain ⟨hn13a, hn13b⟩ := and_e hn12b
  obtain ⟨hn14a, hn14b⟩ := and_e hn13b
  obtain ⟨hn15a, hn15b⟩ := and_e hn14b
  obtain ⟨hn16a, hn16b⟩ := and_e hn15b
  obtain ⟨hn17a, hn17b⟩ := and_e hn16b
  obtain ⟨hn18a, hn18b⟩ := and_e hn17b
  obtain ⟨hn19a, hn19b⟩ := and_e hn18b
  obtain ⟨hn20a, hn20b⟩ := and_e hn19b
  obtain ⟨hn21a, hn21b⟩ := and_e hn20b
  obtain ⟨hn22a, hn22b⟩ := and_e hn21b
  obtain ⟨hn23a, hn23b⟩ := and_e hn22b
  obtain ⟨hn24a, hn24b⟩ := and_e hn23b
  obtain ⟨hn25a, hn25b⟩ := and_e hn24b
  obtain ⟨hn26a, hn26b⟩ := and_e hn25b
  obtain ⟨hn27a, hn27b⟩ := and_e hn26b
  obtain ⟨hn28a, hn28b⟩ := and_e hn27b
  obtain ⟨hn29a, hn29b⟩ := and_e hn28b
  obtain ⟨hn30a, hn30b⟩ := and_e hn29b
  obtain ⟨hn31a, hn31b⟩ := and_e hn30b
  obtain ⟨hn32a, hn32b⟩ := and_e hn31b
  obtain ⟨hn33a, hn33b⟩ := and_e hn32b
  obtain ⟨hn34a, hn34b⟩ := and_e hn33b
  obtain ⟨a__VALUES, v_a__VALUES⟩ := arr_v hn1a
  have S__VALUES := Sta.start v_a__VALUES (Or.inr ⟨(own_w hw 2 rfl), (own_w hw 8 rfl)⟩)
  have E__VALUES := Exa.start v_a__VALUES hn2a
  obtain ⟨a_ONE, v_a_ONE⟩ := exa_v hn4a
  have S_ONE := Sta.start v_a_ONE (Or.inr ⟨(own_w hw 2 rfl), (own_w hw 16 rfl)⟩)
  have E_ONE := Exa.start v_a_ONE hn4a
  obtain ⟨a_BATCH, v_a_BATCH⟩ := exa_v hn6a
  have S_BATCH := Sta.start v_a_BATCH (Or.inr ⟨(own_w hw 2 rfl), (own_w hw 17 rfl)⟩)
  have E_BATCH := Exa.start v_a_BATCH hn6a
  obtain ⟨a_ONE_path, v_a_ONE_path⟩ := exa_v hn8a
  have F_ONE_path := Fld.start ((fld_at v_a_ONE).symm.trans v_a_ONE_path)
  have E_ONE_path := Exa.start v_a_ONE_path hn8a
  obtain ⟨a_BATCH_path, v_a_BATCH_path⟩ := exa_v hn9a
  have F_BATCH_path := Fld.start ((fld_at v_a_BATCH).symm.trans v_a_BATCH_path)
  have E_BATCH_path := Exa.start v_a_BATCH_path hn9a
  have F_ONE_path_coder := Fld.start ((fld_at v_a_ONE_path).symm.trans (own_eqI hn10a))
  obtain ⟨a_ONE_path_value, v_a_ONE_path_value⟩ := arr_v hn11a
  have F_ONE_path_value := Fld.start ((fld_at v_a_ONE_path).symm.trans v_a_ONE_path_value)
  have F_BATCH_path_coder := Fld.start ((fld_at v_a_BATCH_path).symm.trans (own_eqI hn13a))
  obtain ⟨a_BATCH_path_value, v_a_BATCH_path_value⟩ := arr_v hn14a
  have F_BATCH_path_value := Fld.start ((fld_at v_a_BATCH_path).symm.trans v_a_BATCH_path_value)
  have ne_BATCH_path_ONE_path := own_neR v_a_BATCH_path v_a_ONE_path hn16a
  obtain ⟨z_COMPACT_STRINGS, v_z_COMPACT_STRINGS⟩ := is_v (Cond.before_iff.mp (hsets _ (List.mem_of_getElem? (i := 1) rfl)))
  have S_COMPACT_STRINGS := Sta.start v_z_COMPACT_STRINGS (Or.inl (hsets _ (List.mem_of_getElem? (i := 0) rfl)))
  have nz_COMPACT_STRINGS := own_neI v_z_COMPACT_STRINGS (Cond.before_iff.mp (hsets _ (List.mem_of_getElem? (i := 2) rfl)))
  obtain ⟨r_SIOOBE_FORMATTER, v_r_SIOOBE_FORMATTER, i_r_SIOOBE_FORMATTER⟩ := isR_v (Cond.before_iff.mp (hsets _ (List.mem_of_getElem? (i := 8) rfl)))
  have S_SIOOBE_FORMATTER := Sta.start v_r_SIOOBE_FORMATTER (Or.inl (hsets _ (List.mem_of_getElem? (i := 7) rfl)))
  have iS_SIOOBE_FORMATTER := i_r_SIOOBE_FORMATTER
  obtain ⟨cc_a__VALUES, cA_a__VALUES⟩ := Arr.start v_a__VALUES hn1a
  have C__VALUES := own_Cln.start (dv := .null) (vs := [(.ref a_ONE), (.ref a_BATCH)]) hfit cA_a__VALUES (own_len v_a__VALUES cA_a__VALUES hn3a) (by decide) rfl ⟨own_elem v_a__VALUES cA_a__VALUES (own_eqR hn5a v_a_ONE) 0 (by decide), own_elem v_a__VALUES cA_a__VALUES (own_eqR hn7a v_a_BATCH) 1 (by decide), trivial⟩
  obtain ⟨cc_a_ONE_path_value, cA_a_ONE_path_value⟩ := Arr.start v_a_ONE_path_value hn11a
  have C_ONE_path_value := own_Cln.start (dv := (.int (0 : Int32))) (vs := [(.int (47 : Int32)), (.int (118 : Int32)), (.int (49 : Int32)), (.int (47 : Int32)), (.int (99 : Int32)), (.int (104 : Int32)), (.int (101 : Int32)), (.int (99 : Int32)), (.int (107 : Int32))]) hfit cA_a_ONE_path_value (own_len v_a_ONE_path_value cA_a_ONE_path_value hn12a) (by decide) rfl ⟨own_elem v_a_ONE_path_value cA_a_ONE_path_value (own_eqI hn17a) 0 (by decide), own_elem v_a_ONE_path_value cA_a_ONE_path_value (own_eqI hn18a) 1 (by decide), own_elem v_a_ONE_path_value cA_a_ONE_path_value (own_eqI hn19a) 2 (by decide), own_elem v_a_ONE_path_value cA_a_ONE_path_value (own_eqI hn20a) 3 (by decide), own_elem v_a_ONE_path_value cA_a_ONE_path_value (own_eqI hn21a) 4 (by decide), own_elem v_a_ONE_path_value cA_a_ONE_path_value (own_eqI hn22a) 5 (by decide), own_elem v_a_ONE_path_value cA_a_ONE_path_value (own_eqI hn23a) 6 (by decide), own_elem v_a_ONE_path_value cA_a_ONE_path_value (own_eqI hn24a) 7 (by decide), own_elem v_a_ONE_path_value cA_a_ONE_path_value (own_eqI hn25a) 8 (by decide), trivial⟩
  obtain ⟨cc_a_BATCH_path_value, cA_a_BATCH_path_value⟩ := Arr.start v_a_BATCH_path_value hn14a
  have C_BATCH_path_value := own_Cln.start (dv := (.int (0 : Int32))) (vs := [(.int (47 : Int32)), (.int (118 : Int32)), (.int (49 : Int32)), (.int (47 : Int32)), (.int (99 : Int32)), (.int (104 : Int32)), (.int (101 : Int32)), (.int (99 : Int32)), (.int (107 : Int32)), (.int (115 : Int32))]) hfit cA_a_BATCH_path_value (own_len v_a_BATCH_path_value cA_a_BATCH_path_value hn15a) (by decide) rfl ⟨own_elem v_a_BATCH_path_value cA_a_BATCH_path_value (own_eqI hn26a) 0 (by decide), own_elem v_a_BATCH_path_value cA_a_BATCH_path_value (own_eqI hn27a) 1 (by decide), own_elem v_a_BATCH_path_value cA_a_BATCH_path_value (own_eqI hn28a) 2 (by decide), own_elem v_a_BATCH_path_value cA_a_BATCH_path_value (own_eqI hn29a) 3 (by decide), own_elem v_a_BATCH_path_value cA_a_BATCH_path_value (own_eqI hn30a) 4 (by decide), own_elem v_a_BATCH_path_value cA_a_BATCH_path_value (own_eqI hn31a) 5 (by decide), own_elem v_a_BATCH_path_value cA_a_BATCH_path_value (own_eqI hn32a) 6 (by decide), own_elem v_a_BATCH_path_value cA_a_BATCH_path_value (own_eqI hn33a) 7 (by decide), own_elem v_a_BATCH_path_value cA_a_BATCH_path_value (own_eqI hn34a) 8 (by decide), own_elem v_a_BATCH_path_value cA_a_BATCH_path_value (own_eqI hn34b) 9 (by decide), trivial⟩
  obtain ⟨n, o, h1, h2, h3, _, L, rfl, ⟨rfl, N⟩, hq⟩ := rm_law l s _ hw tables_1 i0 a__VALUES a_ONE a_BATCH a_ONE_path a_BATCH_path a_ONE_path_value a_BATCH_path_value z_COMPACT_STRINGS r_SIOOBE_FORMATTER s.heap s.heap.size (Old.start s) ⟨S__VALUES, E__VALUES, S_ONE, E_ONE, S_BATCH, E_BATCH, F_ONE_path, E_ONE_path, F_BATCH_path, E_BATCH_path, F_ONE_path_coder, F_ONE_path_value, F_BATCH_path_coder, F_BATCH_path_value, ne_BATCH_path_ONE_path, S_COMPACT_STRINGS, nz_COMPACT_STRINGS, S_SIOOBE_FORMATTER, iS_SIOOBE_FORMATTER, C__VALUES, C_ONE_path_value, C_BATCH_path_value⟩ rfl (hsets _ (List.mem_of_getElem? (i := 2) rfl)) (hcalls.1 ("com/example/kwota/kwota/server/CheckPathPathsPinLaw", 13) (by simp [consts_1])) (hcalls.1 ("com/example/kwota/kwota/server/CheckPathPathsPinLaw", 21) (by simp [consts_1])) p e ha hc hk s m _ below hf ((Spec.applies_iff_loose hf).mp happ).1 ⟨rfl, State.Warmed39.refl s, rfl, IB.start⟩ trivial
  refine ⟨n, _, h1, h2, h3, hpost _ _ _ _ _ _ ⟨Cond.after_iff.mpr rfl, Cond.after_iff.mpr (eq_i res_at (Term.int_eval (1)) rfl), trivial⟩ ⟨hq.1, hq.2.1, hq.2.2.1, (hq.2.2.2.sift fun y hy => Or.inr (N y hy)).mono (by decide) (by decide)⟩⟩
theorem main_1_1 : Claimed_1_1 := comes_1 fun _ _ _ _ _ _ h hF => ⟨h.1, hF⟩
theorem main_1_2 : Claimed_1_2 := comes_1 fun _ _ _ _ _ _ h hF => ⟨h.2.1, hF⟩
end Jvm.Pilot.@@N@@
namespace Jvm.Pilot.@@N@@
open Jvm Jvm.ClassFile Sem Op Lib Jvm.Free Jvm.Stand Jvm.Pilot.@@N@@.Jvm.D
/-! MADE BY PROGRAM (witnessworld.py) out of the Statement's table words and the real class files: 20 classes; the members and pool entries that the words name. The judged class is class 1, her method 1. -/
namespace start1
open Jvm.ClassFile
def u (s : String) : CpInfo := .utf8 (stringToUtf16 s)
/-- a pool by its gaps: so many unusable entries, then the entry; so many at the end -/
def gap : Nat → List CpInfo → List CpInfo
  | 0, r => r
  | n + 1, r => .unusable :: gap n r
def poolList (es : List (Nat × CpInfo)) (last : Nat) : List CpInfo := es.foldr (fun e r => gap e.1 (e.2 :: r)) (gap last [])
def pool (es : List (Nat × CpInfo)) (last : Nat) : Array CpInfo := ⟨poolList es last⟩
def fileOf (pool : Array CpInfo) (this : Nat) (attrs : Array Attribute := #[]) (ms : Array MethodInfo := #[]) (fl : Nat := 33) (sup : Nat := 0) (ifs : Array Nat := #[]) (fds : Array FieldInfo := #[]) : ClassFile where
  minorVersion := 0
  majorVersion := 65
  constantPool := pool
  accessFlags := fl
  thisClass := this
  superClass := sup
  interfaces := ifs
  fields := fds
  methods := ms
  attributes := attrs
def plain (name : String) (sup : Option ClassId) : Class where
  name := name
  kind := .ordinary
  loader := none
  accessFlags := 33
  super := sup
  interfaces := #[]
  cf := none
  fields := #[]
  methods := #[]
  instanceTypes := #[]
  staticTypes := #[]
  resolved := #[]
  callSites := []
  init := .initialized
  statics := none
  mirror := none

def pool0 : Array CpInfo := pool [(5, u "<init>"), (0, u "()V"), (1, .class_ 10), (1, u "java/lang/Object"), (85, u "clone"), (0, u "()Ljava/lang/Object;")] 26

def k0m0 : Method := { name := "<init>", desc := "()V", sig := { parameters := [], returnType := none }, accessFlags := 1, code := none }
def k0m1 : Method := { name := "clone", desc := "()Ljava/lang/Object;", sig := { parameters := [], returnType := some (.object "java/lang/Object") }, accessFlags := 260, code := none }
/-- java/lang/Object -/
def k0 : Class := { plain "java/lang/Object" none with
  accessFlags := 33
  interfaces := #[]
  cf := some (fileOf pool0 8 #[] #[{ accessFlags := 1, nameIndex := 5, descriptorIndex := 6, attributes := #[] }, { accessFlags := 260, nameIndex := 96, descriptorIndex := 97, attributes := #[] }] 33 0 #[] #[])
  fields := #[]
  methods := #[k0m0, k0m1]
  instanceTypes := #[]
  staticTypes := #[]
  resolved := Array.replicate 124 none
  statics := none }

def pool1 : Array CpInfo := pool [(2, .class_ 4), (1, u "java/lang/Object"), (0, u "<init>"), (0, u "()V"), (0, .methodref 8 9), (0, .class_ 10), (0, .nameAndType 11 12), (0, u "com/example/kwota/kwota/server/CheckPath"), (0, u "paths"), (0, u "()[Ljava/lang/String;"), (0, .string 14), (0, u "/v1/check"), (0, .methodref 16 17), (0, .class_ 18), (0, .nameAndType 19 20), (0, u "java/lang/String"), (0, u "equals"), (0, u "(Ljava/lang/Object;)Z"), (0, .string 22), (0, u "/v1/checks"), (0, .fieldref 8 24), (0, .nameAndType 25 26), (0, u "ONE"), (0, u "Lcom/example/kwota/kwota/server/CheckPath;"), (0, .methodref 8 28), (0, .nameAndType 29 30), (0, u "path"), (0, u "()Ljava/lang/String;"), (0, .fieldref 8 32), (0, .nameAndType 33 26), (0, u "BATCH"), (0, .methodref 8 35), (0, .nameAndType 36 37), (0, u "of"), (0, u "(Ljava/lang/String;)Lcom/example/kwota/kwota/server/CheckPath;"), (0, .class_ 39), (0, u "com/example/kwota/kwota/server/CheckPathPathsPinLaw"), (2, u "law"), (0, u "(I)Z")] 5

def k1m0 : Method := { name := "<init>", desc := "()V", sig := { parameters := [], returnType := none }, accessFlags := 2, code := none }
def k1c1 : Code := { maxStack := 3, maxLocals := 5, code := code, exceptionTable := #[], attributes := #[] }
def k1m1 : Method := { name := "law", desc := "(I)Z", sig := { parameters := [.int], returnType := some .boolean }, accessFlags := 9, code := some k1c1 }
/-- com/example/kwota/kwota/server/CheckPathPathsPinLaw -/
def k1 : Class := { plain "com/example/kwota/kwota/server/CheckPathPathsPinLaw" (some 0) with
  accessFlags := 49
  interfaces := #[]
  cf := some (fileOf pool1 38 #[] #[{ accessFlags := 2, nameIndex := 5, descriptorIndex := 6, attributes := #[] }, { accessFlags := 9, nameIndex := 42, descriptorIndex := 43, attributes := #[] }] 49 2 #[] #[])
  fields := #[]
  methods := #[k1m0, k1m1]
  instanceTypes := #[]
  staticTypes := #[]
  resolved := Array.replicate 49 none
  statics := none }

def pool2 : Array CpInfo := pool [(1, .class_ 2), (0, u "java/lang/constant/Constable"), (0, .class_ 4), (0, u "java/lang/Object")] 6

/-- java/lang/constant/Constable -/
def k2 : Class := { plain "java/lang/constant/Constable" (some 0) with
  accessFlags := 1537
  interfaces := #[]
  cf := some (fileOf pool2 1 #[] #[] 1537 3 #[] #[])
  fields := #[]
  methods := #[]
  instanceTypes := #[]
  staticTypes := #[]
  resolved := Array.replicate 11 none
  statics := none }

def pool3 : Array CpInfo := pool [(1, .class_ 2), (0, u "java/lang/Comparable"), (0, .class_ 4), (0, u "java/lang/Object")] 7

/-- java/lang/Comparable -/
def k3 : Class := { plain "java/lang/Comparable" (some 0) with
  accessFlags := 1537
  interfaces := #[]
  cf := some (fileOf pool3 1 #[] #[] 1537 3 #[] #[])
  fields := #[]
  methods := #[]
  instanceTypes := #[]
  staticTypes := #[]
  resolved := Array.replicate 12 none
  statics := none }

def pool4 : Array CpInfo := pool [(1, .class_ 2), (0, u "java/io/Serializable"), (0, .class_ 4), (0, u "java/lang/Object")] 2

/-- java/io/Serializable -/
def k4 : Class := { plain "java/io/Serializable" (some 0) with
  accessFlags := 1537
  interfaces := #[]
  cf := some (fileOf pool4 1 #[] #[] 1537 3 #[] #[])
  fields := #[]
  methods := #[]
  instanceTypes := #[]
  staticTypes := #[]
  resolved := Array.replicate 7 none
  statics := none }

def pool5 : Array CpInfo := pool [(2, .class_ 4), (1, u "java/lang/Enum"), (0, u "name"), (0, u "Ljava/lang/String;"), (2, u "ordinal"), (0, u "I"), (1, .class_ 14), (1, u "java/lang/Object"), (4, u "hash"), (86, .class_ 108), (1, u "java/lang/Enum$EnumDesc"), (2, .class_ 112), (0, u "java/lang/constant/Constable"), (0, .class_ 114), (0, u "java/lang/Comparable"), (0, .class_ 116), (0, u "java/io/Serializable")] 87

/-- java/lang/Enum -/
def k5 : Class := { plain "java/lang/Enum" (some 0) with
  accessFlags := 1057
  interfaces := #[2, 3, 4]
  cf := some (fileOf pool5 2 #[.nestMembers #[106]] #[] 1057 12 #[111, 113, 115] #[{ accessFlags := 18, nameIndex := 5, descriptorIndex := 6, attributes := #[] }, { accessFlags := 18, nameIndex := 9, descriptorIndex := 10, attributes := #[] }, { accessFlags := 2, nameIndex := 19, descriptorIndex := 10, attributes := #[] }])
  fields := #[{ name := "name", type := (.object "java/lang/String"), accessFlags := 18, slot := 0, constantValue := 0 }, { name := "ordinal", type := .int, accessFlags := 18, slot := 1, constantValue := 0 }, { name := "hash", type := .int, accessFlags := 2, slot := 2, constantValue := 0 }]
  methods := #[]
  instanceTypes := #[(.object "java/lang/String"), .int, .int]
  staticTypes := #[]
  resolved := Array.replicate 204 none
  statics := none }

def pool6 : Array CpInfo := pool [(1, .class_ 2), (0, u "com/example/kwota/kwota/server/CheckPath"), (2, u "ONE"), (0, u "Lcom/example/kwota/kwota/server/CheckPath;"), (2, u "BATCH"), (0, .fieldref 1 11), (0, .nameAndType 12 13), (0, u "$VALUES"), (0, u "[Lcom/example/kwota/kwota/server/CheckPath;"), (0, .methodref 15 16), (0, .class_ 13), (0, .nameAndType 17 18), (0, u "clone"), (0, u "()Ljava/lang/Object;"), (1, .class_ 22), (1, u "java/lang/Enum"), (6, .fieldref 1 30), (0, .nameAndType 31 32), (0, u "path"), (0, u "Ljava/lang/String;"), (0, .methodref 1 34), (0, .nameAndType 35 36), (0, u "values"), (0, u "()[Lcom/example/kwota/kwota/server/CheckPath;"), (0, .class_ 38), (0, u "java/lang/String"), (0, .methodref 37 40), (0, .nameAndType 41 42), (0, u "equals"), (0, u "(Ljava/lang/Object;)Z"), (23, u "(Ljava/lang/String;)Lcom/example/kwota/kwota/server/CheckPath;"), (2, u "()Ljava/lang/String;"), (0, u "paths"), (0, u "()[Ljava/lang/String;"), (3, u "of")] 20

def k6c0 : Code := { maxStack := 1, maxLocals := 0, code := prog_58_method_1_code, exceptionTable := #[], attributes := #[] }
def k6m0 : Method := { name := "values", desc := "()[Lcom/example/kwota/kwota/server/CheckPath;", sig := { parameters := [], returnType := some (.array (.object "com/example/kwota/kwota/server/CheckPath")) }, accessFlags := 9, code := some k6c0 }
def k6c1 : Code := { maxStack := 1, maxLocals := 1, code := prog_58_method_4_code, exceptionTable := #[], attributes := #[] }
def k6m1 : Method := { name := "path", desc := "()Ljava/lang/String;", sig := { parameters := [], returnType := some (.object "java/lang/String") }, accessFlags := 0, code := some k6c1 }
def k6c2 : Code := { maxStack := 4, maxLocals := 3, code := prog_58_method_5_code, exceptionTable := #[], attributes := #[] }
def k6m2 : Method := { name := "paths", desc := "()[Ljava/lang/String;", sig := { parameters := [], returnType := some (.array (.object "java/lang/String")) }, accessFlags := 8, code := some k6c2 }
def k6c3 : Code := { maxStack := 3, maxLocals := 5, code := prog_58_method_6_code, exceptionTable := #[], attributes := #[] }
def k6m3 : Method := { name := "of", desc := "(Ljava/lang/String;)Lcom/example/kwota/kwota/server/CheckPath;", sig := { parameters := [(.object "java/lang/String")], returnType := some (.object "com/example/kwota/kwota/server/CheckPath") }, accessFlags := 8, code := some k6c3 }
/-- com/example/kwota/kwota/server/CheckPath -/
def k6 : Class := { plain "com/example/kwota/kwota/server/CheckPath" (some 5) with
  accessFlags := 16432
  interfaces := #[]
  cf := some (fileOf pool6 1 #[] #[{ accessFlags := 9, nameIndex := 35, descriptorIndex := 36, attributes := #[] }, { accessFlags := 0, nameIndex := 31, descriptorIndex := 69, attributes := #[] }, { accessFlags := 8, nameIndex := 70, descriptorIndex := 71, attributes := #[] }, { accessFlags := 8, nameIndex := 75, descriptorIndex := 66, attributes := #[] }] 16432 20 #[] #[{ accessFlags := 16409, nameIndex := 5, descriptorIndex := 6, attributes := #[] }, { accessFlags := 16409, nameIndex := 9, descriptorIndex := 6, attributes := #[] }, { accessFlags := 18, nameIndex := 31, descriptorIndex := 32, attributes := #[] }, { accessFlags := 4122, nameIndex := 12, descriptorIndex := 13, attributes := #[] }])
  fields := #[{ name := "ONE", type := (.object "com/example/kwota/kwota/server/CheckPath"), accessFlags := 16409, slot := 0, constantValue := 0 }, { name := "BATCH", type := (.object "com/example/kwota/kwota/server/CheckPath"), accessFlags := 16409, slot := 1, constantValue := 0 }, { name := "path", type := (.object "java/lang/String"), accessFlags := 18, slot := 3, constantValue := 0 }, { name := "$VALUES", type := (.array (.object "com/example/kwota/kwota/server/CheckPath")), accessFlags := 4122, slot := 2, constantValue := 0 }]
  methods := #[k6m0, k6m1, k6m2, k6m3]
  instanceTypes := #[(.object "java/lang/String"), .int, .int, (.object "java/lang/String")]
  staticTypes := #[(.object "com/example/kwota/kwota/server/CheckPath"), (.object "com/example/kwota/kwota/server/CheckPath"), (.array (.object "com/example/kwota/kwota/server/CheckPath"))]
  resolved := Array.replicate 96 none
  statics := some 0 }

def pool7 : Array CpInfo := pool [(1, .class_ 2), (0, u "java/lang/Cloneable"), (0, .class_ 4), (0, u "java/lang/Object")] 2

/-- java/lang/Cloneable -/
def k7 : Class := { plain "java/lang/Cloneable" (some 0) with
  accessFlags := 1537
  interfaces := #[]
  cf := some (fileOf pool7 1 #[] #[] 1537 3 #[] #[])
  fields := #[]
  methods := #[]
  instanceTypes := #[]
  staticTypes := #[]
  resolved := Array.replicate 7 none
  statics := none }

def pool8 : Array CpInfo := pool [(2, .class_ 4), (1, u "java/lang/CharSequence"), (42, .class_ 48), (0, u "java/lang/CharSequence$1CodePointIterator"), (10, .class_ 60), (0, u "java/lang/CharSequence$1CharIterator"), (5, .class_ 67), (0, u "java/lang/Object")] 63

/-- java/lang/CharSequence -/
def k8 : Class := { plain "java/lang/CharSequence" (some 0) with
  accessFlags := 1537
  interfaces := #[]
  cf := some (fileOf pool8 2 #[.nestMembers #[47, 59]] #[] 1537 66 #[] #[])
  fields := #[]
  methods := #[]
  instanceTypes := #[]
  staticTypes := #[]
  resolved := Array.replicate 131 none
  statics := none }

def pool9 : Array CpInfo := pool [(1, .class_ 2), (0, u "java/lang/constant/ConstantDesc"), (0, .class_ 4), (0, u "java/lang/Object")] 32

/-- java/lang/constant/ConstantDesc -/
def k9 : Class := { plain "java/lang/constant/ConstantDesc" (some 0) with
  accessFlags := 1537
  interfaces := #[]
  cf := some (fileOf pool9 1 #[] #[] 1537 3 #[] #[])
  fields := #[]
  methods := #[]
  instanceTypes := #[]
  staticTypes := #[]
  resolved := Array.replicate 37 none
  statics := none }

def pool10 : Array CpInfo := pool [(2, .class_ 4), (1, u "java/lang/Object"), (0, u "<init>"), (0, u "()V"), (2, .fieldref 10 11), (0, .class_ 12), (0, .nameAndType 13 14), (0, u "java/lang/String"), (0, u "value"), (0, u "[B"), (0, .fieldref 10 16), (0, .nameAndType 17 18), (0, u "coder"), (0, u "B"), (2, u "hash"), (0, u "I"), (2, u "hashIsZero"), (0, u "Z"), (11, .fieldref 10 39), (0, .nameAndType 40 26), (0, u "COMPACT_STRINGS"), (66, .class_ 109), (1, u "java/lang/StringLatin1"), (431, .methodref 107 542), (0, .nameAndType 543 544), (0, u "equals"), (0, u "([B[B)Z"), (28, u "(Ljava/lang/Object;)Z"), (1, .class_ 576), (0, u "java/lang/CharSequence"), (22, u "CASE_INSENSITIVE_ORDER"), (0, u "Ljava/util/Comparator;"), (500, u "serialPersistentFields"), (0, u "[Ljava/io/ObjectStreamField;"), (0, .class_ 1104), (0, u "java/lang/String$CaseInsensitiveComparator"), (1, .class_ 1107), (0, u "java/io/Serializable"), (0, .class_ 1109), (0, u "java/lang/Comparable"), (0, .class_ 1111), (0, u "java/lang/constant/Constable"), (0, .class_ 1113), (0, u "java/lang/constant/ConstantDesc"), (2, u "serialVersionUID"), (0, u "J"), (3, u "REPL"), (0, u "C"), (2, u "LATIN1"), (1, u "UTF16")] 323

def k10m0 : Method := { name := "<init>", desc := "()V", sig := { parameters := [], returnType := none }, accessFlags := 1, code := none }
def k10c1 : Code := { maxStack := 2, maxLocals := 3, code := jdk_42_method_66_code, exceptionTable := #[], attributes := #[] }
def k10m1 : Method := { name := "equals", desc := "(Ljava/lang/Object;)Z", sig := { parameters := [(.object "java/lang/Object")], returnType := some .boolean }, accessFlags := 1, code := some k10c1 }
/-- java/lang/String -/
def k10 : Class := { plain "java/lang/String" (some 0) with
  accessFlags := 49
  interfaces := #[4, 3, 8, 2, 9]
  cf := some (fileOf pool10 10 #[.nestMembers #[1103]] #[{ accessFlags := 1, nameIndex := 5, descriptorIndex := 6, attributes := #[] }, { accessFlags := 1, nameIndex := 543, descriptorIndex := 573, attributes := #[] }] 49 2 #[1106, 1108, 575, 1110, 1112] #[{ accessFlags := 18, nameIndex := 13, descriptorIndex := 14, attributes := #[] }, { accessFlags := 18, nameIndex := 17, descriptorIndex := 18, attributes := #[] }, { accessFlags := 2, nameIndex := 21, descriptorIndex := 22, attributes := #[] }, { accessFlags := 2, nameIndex := 25, descriptorIndex := 26, attributes := #[] }, { accessFlags := 26, nameIndex := 1116, descriptorIndex := 1117, attributes := #[] }, { accessFlags := 24, nameIndex := 40, descriptorIndex := 26, attributes := #[] }, { accessFlags := 26, nameIndex := 1101, descriptorIndex := 1102, attributes := #[] }, { accessFlags := 26, nameIndex := 1121, descriptorIndex := 1122, attributes := #[] }, { accessFlags := 25, nameIndex := 599, descriptorIndex := 600, attributes := #[] }, { accessFlags := 24, nameIndex := 1125, descriptorIndex := 18, attributes := #[] }, { accessFlags := 24, nameIndex := 1127, descriptorIndex := 18, attributes := #[] }])
  fields := #[{ name := "value", type := (.array .byte), accessFlags := 18, slot := 0, constantValue := 0 }, { name := "coder", type := .byte, accessFlags := 18, slot := 1, constantValue := 0 }, { name := "hash", type := .int, accessFlags := 2, slot := 2, constantValue := 0 }, { name := "hashIsZero", type := .boolean, accessFlags := 2, slot := 3, constantValue := 0 }, { name := "serialVersionUID", type := .long, accessFlags := 26, slot := 0, constantValue := 0 }, { name := "COMPACT_STRINGS", type := .boolean, accessFlags := 24, slot := 1, constantValue := 0 }, { name := "serialPersistentFields", type := (.array (.object "java/io/ObjectStreamField")), accessFlags := 26, slot := 2, constantValue := 0 }, { name := "REPL", type := .char, accessFlags := 26, slot := 3, constantValue := 0 }, { name := "CASE_INSENSITIVE_ORDER", type := (.object "java/util/Comparator"), accessFlags := 25, slot := 4, constantValue := 0 }, { name := "LATIN1", type := .byte, accessFlags := 24, slot := 5, constantValue := 0 }, { name := "UTF16", type := .byte, accessFlags := 24, slot := 6, constantValue := 0 }]
  methods := #[k10m0, k10m1]
  instanceTypes := #[(.array .byte), .byte, .int, .boolean]
  staticTypes := #[.long, .boolean, (.array (.object "java/io/ObjectStreamField")), .char, (.object "java/util/Comparator"), .byte, .byte]
  resolved := Array.replicate 1451 none
  statics := some 1 }

def pool11 : Array CpInfo := pool [(4, .class_ 6), (1, u "java/lang/Object"), (0, u "<init>"), (0, u "()V"), (5, .class_ 16), (1, u "java/lang/StringLatin1"), (104, u "$assertionsDisabled"), (0, u "Z"), (98, .class_ 223), (1, u "java/lang/StringLatin1$LinesSpliterator"), (57, u "equals"), (0, u "([B[B)Z"), (107, .class_ 391), (0, u "java/lang/StringLatin1$CharsSpliterator")] 3

def k11m0 : Method := { name := "<init>", desc := "()V", sig := { parameters := [], returnType := none }, accessFlags := 0, code := none }
def k11c1 : Code := { maxStack := 3, maxLocals := 3, code := jdk_43_method_13_code, exceptionTable := #[], attributes := #[] }
def k11m1 : Method := { name := "equals", desc := "([B[B)Z", sig := { parameters := [(.array .byte), (.array .byte)], returnType := some .boolean }, accessFlags := 9, code := some k11c1 }
/-- java/lang/StringLatin1 -/
def k11 : Class := { plain "java/lang/StringLatin1" (some 0) with
  accessFlags := 48
  interfaces := #[]
  cf := some (fileOf pool11 14 #[.nestMembers #[390, 221]] #[{ accessFlags := 0, nameIndex := 7, descriptorIndex := 8, attributes := #[] }, { accessFlags := 9, nameIndex := 281, descriptorIndex := 282, attributes := #[] }] 48 4 #[] #[{ accessFlags := 4120, nameIndex := 121, descriptorIndex := 122, attributes := #[] }])
  fields := #[{ name := "$assertionsDisabled", type := .boolean, accessFlags := 4120, slot := 0, constantValue := 0 }]
  methods := #[k11m0, k11m1]
  instanceTypes := #[]
  staticTypes := #[.boolean]
  resolved := Array.replicate 395 none
  statics := none }

def pool12 : Array CpInfo := pool [(2, .class_ 4), (1, u "java/lang/Object"), (0, u "<init>"), (0, u "()V"), (17, .class_ 26), (1, u "jdk/internal/util/Preconditions"), (28, .class_ 56), (0, u "jdk/internal/util/Preconditions$4"), (57, .class_ 115), (0, u "jdk/internal/util/Preconditions$1"), (7, u "SIOOBE_FORMATTER"), (0, u "Ljava/util/function/BiFunction;"), (0, .class_ 126), (0, u "jdk/internal/util/Preconditions$2"), (3, u "AIOOBE_FORMATTER"), (0, .class_ 132), (0, u "jdk/internal/util/Preconditions$3"), (3, u "IOOBE_FORMATTER")] 57

def k12m0 : Method := { name := "<init>", desc := "()V", sig := { parameters := [], returnType := none }, accessFlags := 1, code := none }
/-- jdk/internal/util/Preconditions -/
def k12 : Class := { plain "jdk/internal/util/Preconditions" (some 0) with
  accessFlags := 33
  interfaces := #[]
  cf := some (fileOf pool12 24 #[.nestMembers #[55, 131, 125, 114]] #[{ accessFlags := 1, nameIndex := 5, descriptorIndex := 6, attributes := #[] }] 33 2 #[] #[{ accessFlags := 25, nameIndex := 123, descriptorIndex := 124, attributes := #[] }, { accessFlags := 25, nameIndex := 130, descriptorIndex := 124, attributes := #[] }, { accessFlags := 25, nameIndex := 136, descriptorIndex := 124, attributes := #[] }])
  fields := #[{ name := "SIOOBE_FORMATTER", type := (.object "java/util/function/BiFunction"), accessFlags := 25, slot := 0, constantValue := 0 }, { name := "AIOOBE_FORMATTER", type := (.object "java/util/function/BiFunction"), accessFlags := 25, slot := 1, constantValue := 0 }, { name := "IOOBE_FORMATTER", type := (.object "java/util/function/BiFunction"), accessFlags := 25, slot := 2, constantValue := 0 }]
  methods := #[k12m0]
  instanceTypes := #[]
  staticTypes := #[(.object "java/util/function/BiFunction"), (.object "java/util/function/BiFunction"), (.object "java/util/function/BiFunction")]
  resolved := Array.replicate 194 none
  statics := some 2 }

def pool13 : Array CpInfo := pool [(9, u "<init>"), (6, .class_ 18), (1, u "java/lang/Object"), (0, u "()V"), (1, .class_ 23), (1, u "jdk/internal/util/ArraysSupport"), (0, u "LOG2_ARRAY_LONG_INDEX_SCALE"), (0, u "I"), (2, u "U"), (0, u "Ljdk/internal/misc/Unsafe;"), (8, u "BIG_ENDIAN"), (0, u "Z"), (8, u "LOG2_BYTE_BIT_SIZE"), (4, u "LOG2_ARRAY_INT_INDEX_SCALE"), (54, u "JLA"), (0, u "Ljdk/internal/access/JavaLangAccess;"), (11, u "LOG2_ARRAY_BOOLEAN_INDEX_SCALE"), (9, u "LOG2_ARRAY_BYTE_INDEX_SCALE"), (5, u "LOG2_ARRAY_CHAR_INDEX_SCALE"), (5, u "LOG2_ARRAY_SHORT_INDEX_SCALE"), (18, u "LOG2_ARRAY_FLOAT_INDEX_SCALE"), (24, u "LOG2_ARRAY_DOUBLE_INDEX_SCALE"), (89, u "T_BOOLEAN"), (2, u "T_CHAR"), (1, u "T_FLOAT"), (1, u "T_DOUBLE"), (1, u "T_BYTE"), (1, u "T_SHORT"), (1, u "T_INT"), (1, u "T_LONG"), (1, u "SOFT_MAX_ARRAY_LENGTH")] 83

def k13m0 : Method := { name := "<init>", desc := "()V", sig := { parameters := [], returnType := none }, accessFlags := 2, code := none }
/-- jdk/internal/util/ArraysSupport -/
def k13 : Class := { plain "jdk/internal/util/ArraysSupport" (some 0) with
  accessFlags := 33
  interfaces := #[]
  cf := some (fileOf pool13 21 #[] #[{ accessFlags := 2, nameIndex := 9, descriptorIndex := 19, attributes := #[] }] 33 16 #[] #[{ accessFlags := 24, nameIndex := 28, descriptorIndex := 29, attributes := #[] }, { accessFlags := 26, nameIndex := 38, descriptorIndex := 39, attributes := #[] }, { accessFlags := 25, nameIndex := 121, descriptorIndex := 25, attributes := #[] }, { accessFlags := 25, nameIndex := 131, descriptorIndex := 25, attributes := #[] }, { accessFlags := 25, nameIndex := 137, descriptorIndex := 25, attributes := #[] }, { accessFlags := 25, nameIndex := 143, descriptorIndex := 25, attributes := #[] }, { accessFlags := 25, nameIndex := 53, descriptorIndex := 25, attributes := #[] }, { accessFlags := 25, nameIndex := 24, descriptorIndex := 25, attributes := #[] }, { accessFlags := 25, nameIndex := 162, descriptorIndex := 25, attributes := #[] }, { accessFlags := 25, nameIndex := 187, descriptorIndex := 25, attributes := #[] }, { accessFlags := 26, nameIndex := 48, descriptorIndex := 25, attributes := #[] }, { accessFlags := 25, nameIndex := 277, descriptorIndex := 25, attributes := #[] }, { accessFlags := 25, nameIndex := 280, descriptorIndex := 25, attributes := #[] }, { accessFlags := 25, nameIndex := 282, descriptorIndex := 25, attributes := #[] }, { accessFlags := 25, nameIndex := 284, descriptorIndex := 25, attributes := #[] }, { accessFlags := 25, nameIndex := 286, descriptorIndex := 25, attributes := #[] }, { accessFlags := 25, nameIndex := 288, descriptorIndex := 25, attributes := #[] }, { accessFlags := 25, nameIndex := 290, descriptorIndex := 25, attributes := #[] }, { accessFlags := 25, nameIndex := 292, descriptorIndex := 25, attributes := #[] }, { accessFlags := 26, nameIndex := 108, descriptorIndex := 109, attributes := #[] }, { accessFlags := 25, nameIndex := 294, descriptorIndex := 25, attributes := #[] }])
  fields := #[{ name := "U", type := (.object "jdk/internal/misc/Unsafe"), accessFlags := 24, slot := 0, constantValue := 0 }, { name := "BIG_ENDIAN", type := .boolean, accessFlags := 26, slot := 1, constantValue := 0 }, { name := "LOG2_ARRAY_BOOLEAN_INDEX_SCALE", type := .int, accessFlags := 25, slot := 2, constantValue := 0 }, { name := "LOG2_ARRAY_BYTE_INDEX_SCALE", type := .int, accessFlags := 25, slot := 3, constantValue := 0 }, { name := "LOG2_ARRAY_CHAR_INDEX_SCALE", type := .int, accessFlags := 25, slot := 4, constantValue := 0 }, { name := "LOG2_ARRAY_SHORT_INDEX_SCALE", type := .int, accessFlags := 25, slot := 5, constantValue := 0 }, { name := "LOG2_ARRAY_INT_INDEX_SCALE", type := .int, accessFlags := 25, slot := 6, constantValue := 0 }, { name := "LOG2_ARRAY_LONG_INDEX_SCALE", type := .int, accessFlags := 25, slot := 7, constantValue := 0 }, { name := "LOG2_ARRAY_FLOAT_INDEX_SCALE", type := .int, accessFlags := 25, slot := 8, constantValue := 0 }, { name := "LOG2_ARRAY_DOUBLE_INDEX_SCALE", type := .int, accessFlags := 25, slot := 9, constantValue := 0 }, { name := "LOG2_BYTE_BIT_SIZE", type := .int, accessFlags := 26, slot := 10, constantValue := 0 }, { name := "T_BOOLEAN", type := .int, accessFlags := 25, slot := 11, constantValue := 0 }, { name := "T_CHAR", type := .int, accessFlags := 25, slot := 12, constantValue := 0 }, { name := "T_FLOAT", type := .int, accessFlags := 25, slot := 13, constantValue := 0 }, { name := "T_DOUBLE", type := .int, accessFlags := 25, slot := 14, constantValue := 0 }, { name := "T_BYTE", type := .int, accessFlags := 25, slot := 15, constantValue := 0 }, { name := "T_SHORT", type := .int, accessFlags := 25, slot := 16, constantValue := 0 }, { name := "T_INT", type := .int, accessFlags := 25, slot := 17, constantValue := 0 }, { name := "T_LONG", type := .int, accessFlags := 25, slot := 18, constantValue := 0 }, { name := "JLA", type := (.object "jdk/internal/access/JavaLangAccess"), accessFlags := 26, slot := 19, constantValue := 0 }, { name := "SOFT_MAX_ARRAY_LENGTH", type := .int, accessFlags := 25, slot := 20, constantValue := 0 }]
  methods := #[k13m0]
  instanceTypes := #[]
  staticTypes := #[(.object "jdk/internal/misc/Unsafe"), .boolean, .int, .int, .int, .int, .int, .int, .int, .int, .int, .int, .int, .int, .int, .int, .int, .int, .int, (.object "jdk/internal/access/JavaLangAccess"), .int]
  resolved := Array.replicate 378 none
  statics := none }

/-- the primitive byte -/
def k14 : Class := { plain "byte" none with kind := .primitive 'B', accessFlags := 0x411 }
/-- [B -/
def k15 : Class := { plain "[B" (some 0) with kind := .array 14 .byte, interfaces := #[7, 4], accessFlags := 1041 }

/-- the primitive int -/
def k16 : Class := { plain "int" none with kind := .primitive 'I', accessFlags := 0x411 }
/-- [I -/
def k17 : Class := { plain "[I" (some 0) with kind := .array 16 .int, interfaces := #[7, 4], accessFlags := 1041 }

/-- [Lcom/example/kwota/kwota/server/CheckPath; -/
def k18 : Class := { plain "[Lcom/example/kwota/kwota/server/CheckPath;" (some 0) with kind := .array 6 (.object "com/example/kwota/kwota/server/CheckPath"), interfaces := #[7, 4], accessFlags := 1041 }

/-- [Ljava/lang/String; -/
def k19 : Class := { plain "[Ljava/lang/String;" (some 0) with kind := .array 10 (.object "java/lang/String"), interfaces := #[7, 4], accessFlags := 1041 }

def heap : Heap := #[{ cls := 6, slots := #[.ref 4, .ref 5, .ref 3], vm := .statics 6 },
  { cls := 10, slots := #[.long 0, .int 1, .null, .int 0, .null, .int 0, .int 0], vm := .statics 10 },
  { cls := 12, slots := #[.null, .null, .null], vm := .statics 12 },
  { cls := 18, slots := #[.ref 4, .ref 5], vm := .none },
  { cls := 6, slots := #[.null, .int 0, .int 0, .ref 6], vm := .none },
  { cls := 6, slots := #[.null, .int 0, .int 0, .ref 7], vm := .none },
  { cls := 10, slots := #[.ref 8, .int 0, .int 0, .int 0], vm := .none },
  { cls := 10, slots := #[.ref 9, .int 0, .int 0, .int 0], vm := .none },
  { cls := 15, slots := #[.int 47, .int 118, .int 49, .int 47, .int 99, .int 104, .int 101, .int 99, .int 107], vm := .none },
  { cls := 15, slots := #[.int 47, .int 118, .int 49, .int 47, .int 99, .int 104, .int 101, .int 99, .int 107, .int 115], vm := .none }]
def classes : Array Class := #[k0, k1, k2, k3, k4, k5, k6, k7, k8, k9, k10, k11, k12, k13, k14, k15, k16, k17, k18, k19]
def interned : List (Array UInt16 × Addr) := []
def slotsUsed : Nat := 50
def theMethod : MethodId := ⟨1, 1⟩
def args0 : Array Value := #[.int 9]
def aboutOver (below : List Frame) : State where
  vm := { classes := classes, interned := interned.toArray }
  heap := heap
  slotsUsed := slotsUsed
  threads := #[{ frames := .invoking theMethod args0 :: below }]
def below0 : List Frame := [.native { method := ⟨0, 0⟩, args := #[] }]
def about1 : State := aboutOver below0
def p0 : Program := .bare "" "" ""
def e0 : Env := launch0.env 0 0 0
theorem w_frames : about1.frames = Frame.invoking theMethod args0 :: below0 := rfl
set_option maxRecDepth 65536 in
theorem w_args : argsFit about1.vm theMethod args0 = true := by decide +kernel
set_option maxRecDepth 65536 in
theorem w_heap : heapFits about1 = true := by decide +kernel
set_option maxRecDepth 65536 in
theorem w_runnable : about1.curStatus? = some .runnable := by decide +kernel
set_option maxRecDepth 65536 in
theorem w_alone : about1.alone = true := by decide +kernel
set_option maxRecDepth 65536 in
theorem w_named : about1.methodNamed? x = some theMethod := by decide +kernel
set_option maxRecDepth 65536 in
theorem w_hears : about1.hears theMethod below0 = true := by decide +kernel
set_option maxRecDepth 65536 in
theorem w_ripe : about1.ripe theMethod args0 below0 = true := by decide +kernel
theorem w_running : about1.status = .running := rfl
set_option maxRecDepth 65536 in
theorem w_room : about1.hasRoom e0.platform room_1 = true :=
  launch0.hasRoom_least _ room_1 (by decide +kernel) (by decide +kernel) (by decide +kernel) (by decide +kernel) (by decide +kernel) (by decide +kernel)
theorem allAtoms_all (ts : List Jvm.Cond) (a : Array Jvm.Value) (st : Jvm.State) : (allAtoms ts).before a st = ts.all (fun c => c.before a st) := by
  induction ts with
  | nil => rfl
  | cons c t ih =>
    show (Jvm.Cond.and c (allAtoms t)).before a st = _
    rw [Jvm.Cond.before_and, ih, List.all_cons]
def words1 : List Jvm.Cond := Jvm.Cond.code x code maxLocals ret :: tables_1
/-- a 'code' word, met by the world's own term for the bytes: nothing is compared byte by byte -/
theorem code_word {y : MethodName} {bytes : ByteArray} {mx : Nat} {rt : Option FieldType} {a : Array Value} {s : State} {m : MethodId} {meth : Method} {c : Code} (h1 : s.methodNamed? y = some m) (h2 : s.vm.method? m = some meth) (h3 : meth.code = some c) (h4 : c.code = bytes)
    (h5 : (c.maxLocals == mx && c.exceptionTable.isEmpty && decide (c.maxStack ≤ mostOperands) && decide (meth.sig.returnType = rt) && !meth.locks && decide (parseMethodDescriptor y.desc = some meth.sig)) = true) : (Jvm.Cond.code y bytes mx rt).before a s = true := by
  simp only [Bool.and_eq_true, beq_iff_eq, Bool.not_eq_true', decide_eq_true_eq] at h5
  obtain ⟨⟨⟨⟨⟨g1, g2⟩, g3⟩, g4⟩, g5⟩, g6⟩ := h5
  simp [Cond.before, Cond.holds, Cond.value, h1, h2, h3, h4, g1, g2, g3, g4, g5, g6]
def isCode : Jvm.Cond → Bool
  | .code _ _ _ _ => true
  | _ => false
theorem all_split {L : List Jvm.Cond} {P : Jvm.Cond → Bool} (h1 : L.all (fun c => isCode c || P c) = true) (h2 : ∀ c ∈ L.filter isCode, P c = true) : L.all P = true := by
  refine List.all_eq_true.mpr fun c hc => ?_
  have h := List.all_eq_true.mp h1 c hc
  rcases Bool.eq_false_or_eq_true (isCode c) with hi | hi
  · exact h2 c (List.mem_filter.mpr ⟨hc, hi⟩)
  · simpa [hi] using h
set_option maxRecDepth 65536 in
theorem w_c0 : (Jvm.Cond.code x code maxLocals ret).before args0 about1 = true := code_word (m := ⟨1, 1⟩) (meth := k1m1) (c := k1c1) (by decide +kernel) rfl rfl rfl (by decide +kernel)
set_option maxRecDepth 65536 in
theorem w_c1 : (Jvm.Cond.code ({ cls := "com/example/kwota/kwota/server/CheckPath", name := "paths", desc := "()[Ljava/lang/String;" } : Jvm.MethodName) prog_58_method_5_code (3 : Nat) (Option.some (Jvm.ClassFile.FieldType.array (Jvm.ClassFile.FieldType.object "java/lang/String")))).before args0 about1 = true := code_word (m := ⟨6, 2⟩) (meth := k6m2) (c := k6c2) (by decide +kernel) rfl rfl rfl (by decide +kernel)
set_option maxRecDepth 65536 in
theorem w_c2 : (Jvm.Cond.code ({ cls := "com/example/kwota/kwota/server/CheckPath", name := "values", desc := "()[Lcom/example/kwota/kwota/server/CheckPath;" } : Jvm.MethodName) prog_58_method_1_code (0 : Nat) (Option.some (Jvm.ClassFile.FieldType.array (Jvm.ClassFile.FieldType.object "com/example/kwota/kwota/server/CheckPath")))).before args0 about1 = true := code_word (m := ⟨6, 0⟩) (meth := k6m0) (c := k6c0) (by decide +kernel) rfl rfl rfl (by decide +kernel)
set_option maxRecDepth 65536 in
theorem w_c3 : (Jvm.Cond.code ({ cls := "java/lang/String", name := "equals", desc := "(Ljava/lang/Object;)Z" } : Jvm.MethodName) jdk_42_method_66_code (3 : Nat) (Option.some Jvm.ClassFile.FieldType.boolean)).before args0 about1 = true := code_word (m := ⟨10, 1⟩) (meth := k10m1) (c := k10c1) (by decide +kernel) rfl rfl rfl (by decide +kernel)
set_option maxRecDepth 65536 in
theorem w_c4 : (Jvm.Cond.code ({ cls := "java/lang/StringLatin1", name := "equals", desc := "([B[B)Z" } : Jvm.MethodName) jdk_43_method_13_code (3 : Nat) (Option.some Jvm.ClassFile.FieldType.boolean)).before args0 about1 = true := code_word (m := ⟨11, 1⟩) (meth := k11m1) (c := k11c1) (by decide +kernel) rfl rfl rfl (by decide +kernel)
set_option maxRecDepth 65536 in
theorem w_c5 : (Jvm.Cond.code ({ cls := "com/example/kwota/kwota/server/CheckPath", name := "path", desc := "()Ljava/lang/String;" } : Jvm.MethodName) prog_58_method_4_code (1 : Nat) (Option.some (Jvm.ClassFile.FieldType.object "java/lang/String"))).before args0 about1 = true := code_word (m := ⟨6, 1⟩) (meth := k6m1) (c := k6c1) (by decide +kernel) rfl rfl rfl (by decide +kernel)
set_option maxRecDepth 65536 in
theorem w_c6 : (Jvm.Cond.code ({ cls := "com/example/kwota/kwota/server/CheckPath", name := "of", desc := "(Ljava/lang/String;)Lcom/example/kwota/kwota/server/CheckPath;" } : Jvm.MethodName) prog_58_method_6_code (5 : Nat) (Option.some (Jvm.ClassFile.FieldType.object "com/example/kwota/kwota/server/CheckPath"))).before args0 about1 = true := code_word (m := ⟨6, 3⟩) (meth := k6m3) (c := k6c3) (by decide +kernel) rfl rfl rfl (by decide +kernel)
def codes1 : List Jvm.Cond := [Jvm.Cond.code x code maxLocals ret, Jvm.Cond.code ({ cls := "com/example/kwota/kwota/server/CheckPath", name := "paths", desc := "()[Ljava/lang/String;" } : Jvm.MethodName) prog_58_method_5_code (3 : Nat) (Option.some (Jvm.ClassFile.FieldType.array (Jvm.ClassFile.FieldType.object "java/lang/String"))), Jvm.Cond.code ({ cls := "com/example/kwota/kwota/server/CheckPath", name := "values", desc := "()[Lcom/example/kwota/kwota/server/CheckPath;" } : Jvm.MethodName) prog_58_method_1_code (0 : Nat) (Option.some (Jvm.ClassFile.FieldType.array (Jvm.ClassFile.FieldType.object "com/example/kwota/kwota/server/CheckPath"))), Jvm.Cond.code ({ cls := "java/lang/String", name := "equals", desc := "(Ljava/lang/Object;)Z" } : Jvm.MethodName) jdk_42_method_66_code (3 : Nat) (Option.some Jvm.ClassFile.FieldType.boolean), Jvm.Cond.code ({ cls := "java/lang/StringLatin1", name := "equals", desc := "([B[B)Z" } : Jvm.MethodName) jdk_43_method_13_code (3 : Nat) (Option.some Jvm.ClassFile.FieldType.boolean), Jvm.Cond.code ({ cls := "com/example/kwota/kwota/server/CheckPath", name := "path", desc := "()Ljava/lang/String;" } : Jvm.MethodName) prog_58_method_4_code (1 : Nat) (Option.some (Jvm.ClassFile.FieldType.object "java/lang/String")), Jvm.Cond.code ({ cls := "com/example/kwota/kwota/server/CheckPath", name := "of", desc := "(Ljava/lang/String;)Lcom/example/kwota/kwota/server/CheckPath;" } : Jvm.MethodName) prog_58_method_6_code (5 : Nat) (Option.some (Jvm.ClassFile.FieldType.object "com/example/kwota/kwota/server/CheckPath"))]
set_option maxRecDepth 65536 in
theorem codes_eq : words1.filter isCode = codes1 := rfl
theorem w_codes : ∀ c ∈ words1.filter isCode, c.before args0 about1 = true := by
  rw [codes_eq]
  intro c hc
  simp only [codes1, List.mem_cons, List.not_mem_nil, or_false] at hc
  rcases hc with rfl | rfl | rfl | rfl | rfl | rfl | rfl
  · exact w_c0
  · exact w_c1
  · exact w_c2
  · exact w_c3
  · exact w_c4
  · exact w_c5
  · exact w_c6
set_option maxRecDepth 65536 in
theorem w_t1 : (words1.take 24).all (fun c => isCode c || c.before args0 about1) = true := by decide +kernel
set_option maxRecDepth 65536 in
theorem w_t2 : ((words1.drop 24).take 24).all (fun c => isCode c || c.before args0 about1) = true := by decide +kernel
set_option maxRecDepth 65536 in
theorem w_t3 : ((words1.drop 24).drop 24).all (fun c => isCode c || c.before args0 about1) = true := by decide +kernel
theorem w_tables : (allAtoms (Jvm.Cond.code x code maxLocals ret :: tables_1)).before args0 about1 = true := by
  rw [allAtoms_all]
  show words1.all (fun c => c.before args0 about1) = true
  refine all_split ?_ w_codes
  rw [← List.take_append_drop 24 words1, List.all_append, w_t1, ← List.take_append_drop 24 (words1.drop 24), List.all_append, w_t2, w_t3]
  rfl
set_option maxRecDepth 65536 in
theorem w_rest : rest_1_c.before args0 about1 = true := by decide +kernel
set_option maxRecDepth 65536 in
theorem w_case : (Jvm.Cond.and given_1 narrow_1).before args0 about1 = true := by decide +kernel
set_option maxRecDepth 65536 in
theorem w_consts : constsHeld consts_1 about1 := Jvm.Lit.constsHeldB_iff.mp (by decide +kernel)
theorem w_applies : (headSpec (Jvm.Cond.code x code maxLocals ret :: tables_1) room_1).applies x e0.platform about1 = true :=
  (Spec.applies_iff w_frames).mpr ⟨w_running, w_runnable, w_alone, w_named, w_hears, w_ripe, w_room, w_tables⟩
theorem atStart : AtStart classFile x code maxLocals ret World_1 tables_1 room_1 Calls_1 rest_1 Pre_1 launch0 p0 e0 about1 theMethod args0 below0 :=
  ⟨lists_1, trivial, launch0.admits_env _ _ _, launch0.least_env, fairChoices_fair.cas, fairChoices_fair.clock, w_frames, w_args, w_heap, w_applies, ⟨w_consts, trivial⟩, w_rest, w_case⟩
end start1
theorem witness_1 : WitnessClaimed_1 := ⟨start1.p0, start1.e0, start1.about1, start1.theMethod, start1.args0, start1.below0, start1.atStart⟩
end Jvm.Pilot.@@N@@
