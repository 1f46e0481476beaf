import JvmDerived
import JvmDerived.Pilot.@@N@@Statement
import JvmDerived.Pilot.@@N@@Code
set_option linter.unusedVariables false
set_option linter.unusedSimpArgs false
namespace Jvm.Pilot.@@N@@
open Jvm Jvm.ClassFile Sem Op Lib Jvm.Free Jvm.Stand Jvm.LawKit Jvm.RoadKit Bundle Jvm.Pilot.@@N@@.Jvm.D
abbrev own_At (p : Program) (e : Env) (below : List Frame) (m : MethodId) (T : State) (pc : Nat) (ls : Array Slot) (st : List Value) (t : State) : Prop := Steps p.tables e below (T.setTop (mkF m pc ls st)) t
abbrev own_En (p : Program) (e : Env) (below : List Frame) (m : MethodId) (T : State) (a : Array Value) (n : Nat) (t : State) : Prop := Steps p.tables e below (T.setTop (entryFrame m a n)) t
theorem own_w {a0 : Array Value} {Z : State} (hw : ∀ d ∈ tables_1, d.before a0 Z = true) (i : Nat) {d : Jvm.Cond} (h : tables_1[i]? = some d) : d.before a0 Z = true := hw d (List.mem_of_getElem? h)
theorem own_eqI {t : Term} {k : Int32} {args : Array Value} {s : State} (h : (Jvm.Cond.eq t (.int k)).value args s none s [] = some true) : t.eval args s none [] s = some (.int k) := by
  have e : (Term.int k).eval args s none [] s = some (.int k) := rfl
  simp only [Cond.value, e] at h
  cases ht : t.eval args s none [] s with
  | none => simp [ht] at h
  | some x => cases x <;> simp [ht] at h ⊢; exact h
theorem own_neI {t : Term} {k z : Int32} {args : Array Value} {s : State} (e : t.eval args s none [] s = some (.int z)) (h : (Jvm.Cond.not (Jvm.Cond.eq t (.int k))).value args s none s [] = some true) : ¬ (z = k) := by
  have q := not_v h
  have e2 : (Term.int k).eval args s none [] s = some (.int k) := rfl
  simp only [Cond.value, e, e2, Bool.not_true, Option.some.injEq, decide_eq_false_iff_not] at q
  exact q
theorem own_neR {t u : Term} {a b : Addr} {args : Array Value} {s : State} (ea : t.eval args s none [] s = some (.ref a)) (eb : u.eval args s none [] s = some (.ref b)) (h : (Jvm.Cond.not (Jvm.Cond.eq t u)).value args s none s [] = some true) : ¬ (a = b) := by
  have q := not_v h
  rw [eq_R ea eb rfl rfl] at q
  intro e
  rw [e] at q
  simp at q
theorem own_eqJ {t : Term} {k : Int64} {args : Array Value} {s : State} (h : (Jvm.Cond.eq t (.long k)).value args s none s [] = some true) : t.eval args s none [] s = some (.long k) := by
  have e : (Term.long k).eval args s none [] s = some (.long k) := rfl
  simp only [Cond.value, e] at h
  cases ht : t.eval args s none [] s with
  | none => simp [ht] at h
  | some x => cases x <;> simp [ht] at h ⊢; exact h
theorem own_len {t : Term} {n : Int32} {a : Addr} {cl : Cell} {ty : FieldType} {args : Array Value} {s : State} (ev : t.eval args s none [] s = some (.ref a)) (A : Arr s s.heap a cl ty) (h : (Jvm.Cond.eq (.length t) (.int n)).value args s none s [] = some true) : cl.slots.size < 2 ^ 31 ∧ cl.slots.size.toInt32 = n := by
  have q := own_eqI h
  have hA := A.fin (Vm.Alike.refl _)
  simp only [Term.eval, ev, hA, Option.bind_eq_bind, Option.bind_some] at q
  split at q
  · rename_i hl
    exact ⟨hl, Value.int.inj (Option.some.inj q)⟩
  · cases q
theorem own_elem {t u : Term} {j : Int32} {a : Addr} {v : Value} {cl : Cell} {ty : FieldType} {args : Array Value} {s : State} (ev : t.eval args s none [] s = some (.ref a)) (A : Arr s s.heap a cl ty) (h : (Term.elem t (.int j)).eval args s none [] s = some v) (i : Nat) (hi : j.toNatClampNeg = i) : cl.slots[i]? = some v := by
  have q := (elem_in h ev (rfl : (Term.int j).eval args s none [] s = some (.int j)) A.1).2
  rw [hi] at q; exact q
/-- an array as it stood at the start, that may be cloned -/
def own_Cln (Z : State) (h : Heap) (a : Addr) (ty : FieldType) (n : Int32) (vs : List Value) (d : Value) : Prop := ∃ c : Cell, Arr Z h a c ty ∧ FitC Z c ∧ c.slots.size = n.toNatClampNeg ∧ ¬ n < 0 ∧ Has c vs d ∧ ∀ i, i < c.slots.size → fits ty (vs.getD i d) = true
theorem own_Cln.ext {Z : State} {h h' : Heap} {a : Addr} {ty : FieldType} {n : Int32} {vs : List Value} {d : Value} (F : own_Cln Z h a ty n vs d) (E : Ext h h') : own_Cln Z h' a ty n vs d := by
  obtain ⟨c, A, r⟩ := F; exact ⟨c, A.ext E, r⟩
theorem own_Cln.start {Z : State} {a : Addr} {cl : Cell} {ty : FieldType} {z : Int32} {vs : List Value} {dv : Value} (hf : Fit Z) (A : Arr Z Z.heap a cl ty) (q : cl.slots.size < 2 ^ 31 ∧ cl.slots.size.toInt32 = z) (hz : ¬ z < 0) (hl : z.toNatClampNeg = vs.length) (H : HasL cl 0 vs) : own_Cln Z Z.heap a ty z vs dv := by
  have S : cl.slots.size = z.toNatClampNeg := by rw [← q.2]; simp only [Int32.toNatClampNeg, len_toInt q.1]; rfl
  have H' : Has cl vs dv := fun j hj => by have := HasL.at (dv := dv) vs 0 H j (by rw [← hl, ← S]; exact hj); rwa [Nat.zero_add] at this
  refine ⟨cl, A, FitC.start hf A, S, hz, H', fun j hj => ?_⟩
  have e1 : (Nat.toInt32 j).toNatClampNeg = j := by simp only [Int32.toNatClampNeg, len_toInt (Nat.lt_trans hj q.1)]; rfl
  exact elem_fits (j := Nat.toInt32 j) hf A (idx_in hj q.1) (by rw [e1]; exact H' j hj)
theorem own_Cln.arv {Z : State} {h : Heap} {a : Addr} {ty : FieldType} {n : Int32} {vs : List Value} {d : Value} (F : own_Cln Z h a ty n vs d) : ∃ k, Arv Z h a k ty n vs d := by
  obtain ⟨c, A, -, r⟩ := F; exact ⟨c.cls, c, A, rfl, r⟩
theorem own_eqR {t u : Term} {b : Addr} {args : Array Value} {s : State} (h : (Jvm.Cond.eq t u).value args s none s [] = some true) (e : u.eval args s none [] s = some (.ref b)) : t.eval args s none [] s = some (.ref b) := by
  simp only [Cond.value, e] at h
  cases ht : t.eval args s none [] s with
  | none => simp [ht] at h
  | some x => cases x <;> simp [ht] at h ⊢; exact h
def EV (Z : State) (a_STRONG_DENIAL : Addr) (a_WEAK_DENIAL : Addr) (a_STRONG_PERMISSION : Addr) (a_WEAK_PERMISSION : Addr) : Prop := Sta Z Z.heap "com/example/gate3/gate3/model/Right" "STRONG_DENIAL" "Lcom/example/gate3/gate3/model/Right;" (.ref a_STRONG_DENIAL) ∧ Exa Z Z.heap a_STRONG_DENIAL "com/example/gate3/gate3/model/Right" ∧ Fld Z Z.heap a_STRONG_DENIAL "com/example/gate3/gate3/model/Right" "permission" "Z" (.int (0 : Int32)) ∧ Fld Z Z.heap a_STRONG_DENIAL "com/example/gate3/gate3/model/Right" "strong" "Z" (.int (1 : Int32)) ∧ Sta Z Z.heap "com/example/gate3/gate3/model/Right" "WEAK_DENIAL" "Lcom/example/gate3/gate3/model/Right;" (.ref a_WEAK_DENIAL) ∧ Exa Z Z.heap a_WEAK_DENIAL "com/example/gate3/gate3/model/Right" ∧ Fld Z Z.heap a_WEAK_DENIAL "com/example/gate3/gate3/model/Right" "permission" "Z" (.int (0 : Int32)) ∧ Fld Z Z.heap a_WEAK_DENIAL "com/example/gate3/gate3/model/Right" "strong" "Z" (.int (0 : Int32)) ∧ Sta Z Z.heap "com/example/gate3/gate3/model/Right" "STRONG_PERMISSION" "Lcom/example/gate3/gate3/model/Right;" (.ref a_STRONG_PERMISSION) ∧ Exa Z Z.heap a_STRONG_PERMISSION "com/example/gate3/gate3/model/Right" ∧ Fld Z Z.heap a_STRONG_PERMISSION "com/example/gate3/gate3/model/Right" "permission" "Z" (.int (1 : Int32)) ∧ Fld Z Z.heap a_STRONG_PERMISSION "com/example/gate3/gate3/model/Right" "strong" "Z" (.int (1 : Int32)) ∧ Sta Z Z.heap "com/example/gate3/gate3/model/Right" "WEAK_PERMISSION" "Lcom/example/gate3/gate3/model/Right;" (.ref a_WEAK_PERMISSION) ∧ Exa Z Z.heap a_WEAK_PERMISSION "com/example/gate3/gate3/model/Right" ∧ Fld Z Z.heap a_WEAK_PERMISSION "com/example/gate3/gate3/model/Right" "permission" "Z" (.int (1 : Int32)) ∧ Fld Z Z.heap a_WEAK_PERMISSION "com/example/gate3/gate3/model/Right" "strong" "Z" (.int (0 : Int32))
theorem ef_law (m : MethodId) (x0 : Int32) (x1 : Int32)  : entryFrame m #[(.int x0), (.int x1)] maxLocals = mkF m 0 #[.val (.int x0), .val (.int x1), .unset, .unset, .unset] [] := by first | (simp [entryFrame, mkF, argsToLocals, Value.category, maxLocals]; done) | rfl
theorem ef_f1 (m : MethodId) (x0 : Int32) (x1 : Int32)  : entryFrame m #[(.int x0), (.int x1)] 3 = mkF m 0 #[.val (.int x0), .val (.int x1), .unset] [] := by first | (simp [entryFrame, mkF, argsToLocals, Value.category]; done) | rfl
theorem d_prog_122_method_4_code_0 : decode prog_122_method_4_code 0 = .ok (.iload_n 0, 1) := by decide +kernel
theorem d_prog_122_method_4_code_1 : decode prog_122_method_4_code 1 = .ok (.ifCond .eq 20, 3) := by decide +kernel
theorem d_prog_122_method_4_code_21 : decode prog_122_method_4_code 21 = .ok (.iload_n 1, 1) := by decide +kernel
theorem d_prog_122_method_4_code_22 : decode prog_122_method_4_code 22 = .ok (.ifCond .eq 9, 3) := by decide +kernel
theorem d_prog_122_method_4_code_31 : decode prog_122_method_4_code 31 = .ok (.getstatic 10, 3) := by decide +kernel
theorem d_prog_122_method_4_code_34 : decode prog_122_method_4_code 34 = .ok (.astore_n 2, 1) := by decide +kernel
theorem d_prog_122_method_4_code_35 : decode prog_122_method_4_code 35 = .ok (.aload_n 2, 1) := by decide +kernel
theorem d_prog_122_method_4_code_36 : decode prog_122_method_4_code 36 = .ok (.areturn, 1) := by decide +kernel
theorem pn_com_example_gate3_gate3_model_Right : plainName "com/example/gate3/gate3/model/Right" = true := by first | (simp [plainName, overriddenIn]; done) | decide +kernel
abbrev own_m0 : MethodName := ⟨"com/example/gate3/gate3/model/Right", "of", "(ZZ)Lcom/example/gate3/gate3/model/Right;"⟩
def Q_f1 (Z : State) (a_STRONG_DENIAL : Addr) (a_WEAK_DENIAL : Addr) (a_STRONG_PERMISSION : Addr) (a_WEAK_PERMISSION : Addr) (h0 : Heap) (n0 : Nat) (v : Option Value) (h : Heap) (L : List Loc) : Prop := v = some (.ref a_WEAK_DENIAL) ∧ Fr n0 L ∧ h = h0
set_option maxRecDepth 65536 in
set_option maxHeartbeats 40000000 in
theorem rm_f1 (l : Launch) (Z : State) (a0 : Array Value) (hw : ∀ d ∈ tables_1, d.before a0 Z = true) (ws : List Jvm.Cond) (a_STRONG_DENIAL : Addr) (a_WEAK_DENIAL : Addr) (a_STRONG_PERMISSION : Addr) (a_WEAK_PERMISSION : Addr) (h0 : Heap) (n0 : Nat) (O0 : Old Z n0 h0) (hE : EV Z a_STRONG_DENIAL a_WEAK_DENIAL a_STRONG_PERMISSION a_WEAK_PERMISSION) :
    MetFree l own_m0 (head1 (Jvm.Cond.code own_m0 prog_122_method_4_code 3 (some (.object "com/example/gate3/gate3/model/Right")) :: ws) ({ frames := 0, cells := 0, slots := 0, locals := 0 } : Room)) (fun a U => a = #[(.int (0 : Int32)), (.int (0 : Int32))] ∧ Z.Warmed39 U.vm ∧ U.heap = h0) (fun _ _ _ _ _ => True) (fun _ U o U' => ∃ v L, o = .returned v ∧ Q_f1 Z a_STRONG_DENIAL a_WEAK_DENIAL a_STRONG_PERMISSION a_WEAK_PERMISSION h0 n0 v U'.heap L ∧ FrameEnd U o U' L ({ frames := 0, cells := 0, slots := 0, locals := 0 } : Room).cells ({ frames := 0, cells := 0, slots := 0, locals := 0 } : Room).slots) := by
  refine MetFree.of_bodySF (plainFor_of_name pn_com_example_gate3_gate3_model_Right) hisR ?_
  intro p e s m args below meth c s₁ Bd hml0 hP hK
  obtain ⟨rfl, hZ, hh⟩ := hP
  have hx := Bd.exec
  have hby := Bd.bytes
  have hml : c.maxLocals = 3 := hml0
  have hown : s.vm.findClass "com/example/gate3/gate3/model/Right" = some m.cls := findClass_of_methodNamed Bd.named
  have hnm := (name_of_methodNamed Bd.named Bd.method).1
  have X0 : Stand p l e ({ frames := 0, cells := 0, slots := 0, locals := 0 } : Room) s m #[(.int (0 : Int32)), (.int (0 : Int32))] below meth c s₁ [] 0 0 := Stand.of_body Bd
  have e0 : s₁.heap = h0 := by rw [← hh, Bd.state]; rfl
  have N0 := Fr.nil n0
  refine Classical.byContradiction fun hNG => ?_
  have K0 := Keep.refl h0 []
  have k0 : ∀ t, own_At p e below m s₁ 0 #[.val (.int (0 : Int32)), .val (.int (0 : Int32)), .unset] [] t → own_En p e below m s₁ #[(.int (0 : Int32)), (.int (0 : Int32))] 3 t := fun t k => castTop (ef_f1 m ((0 : Int32)) ((0 : Int32)) ) k
  obtain ⟨S_STRONG_DENIAL, E_STRONG_DENIAL, F_STRONG_DENIAL_permission, F_STRONG_DENIAL_strong, S_WEAK_DENIAL, E_WEAK_DENIAL, F_WEAK_DENIAL_permission, F_WEAK_DENIAL_strong, S_STRONG_PERMISSION, E_STRONG_PERMISSION, F_STRONG_PERMISSION_permission, F_STRONG_PERMISSION_strong, S_WEAK_PERMISSION, E_WEAK_PERMISSION, F_WEAK_PERMISSION_permission, F_WEAK_PERMISSION_strong⟩ := (id hE : EV Z a_STRONG_DENIAL a_WEAK_DENIAL a_STRONG_PERMISSION a_WEAK_PERMISSION)
  obtain ⟨T1, X1, e1, st1⟩ := getS2 X0 hx hZ hown (host := "") (Or.inl (own_w hw 20 rfl)) Via.refl e0 (S_WEAK_DENIAL.ext O0.2) (g := (mkF m 31 #[.val (.int (0 : Int32)), .val (.int (0 : Int32)), .unset] [])) rfl (hb hby d_prog_122_method_4_code_31)
  have k2 : ∀ t, own_At p e below m T1 36 #[.val (.int (0 : Int32)), .val (.int (0 : Int32)), .val (.ref a_WEAK_DENIAL)] [(.ref a_WEAK_DENIAL)] t → own_En p e below m s₁ #[(.int (0 : Int32)), (.int (0 : Int32))] 3 t := by
    intro t k
    refine k0 t ?_
    refine XS.iloadN X0.here hx rfl (hb hby d_prog_122_method_4_code_0) rfl ?_
    show own_At p e below m s₁ 1 #[.val (.int (0 : Int32)), .val (.int (0 : Int32)), .unset] [(.int (0 : Int32))] t
    refine XS.ifYes X0.here hx rfl (pc0 := 1) (pc' := 21) rfl (hb hby d_prog_122_method_4_code_1) rfl ((if0 _ _).trans (teq (by decide : (0 : Int32) = (0 : Int32))).1) (by decide) (by decide) ?_
    show own_At p e below m s₁ 21 #[.val (.int (0 : Int32)), .val (.int (0 : Int32)), .unset] [] t
    refine XS.iloadN X0.here hx rfl (hb hby d_prog_122_method_4_code_21) rfl ?_
    show own_At p e below m s₁ 22 #[.val (.int (0 : Int32)), .val (.int (0 : Int32)), .unset] [(.int (0 : Int32))] t
    refine XS.ifYes X0.here hx rfl (pc0 := 22) (pc' := 31) rfl (hb hby d_prog_122_method_4_code_22) rfl ((if0 _ _).trans (teq (by decide : (0 : Int32) = (0 : Int32))).1) (by decide) (by decide) ?_
    show own_At p e below m s₁ 31 #[.val (.int (0 : Int32)), .val (.int (0 : Int32)), .unset] [] t
    refine st1 _ ?_
    show own_At p e below m T1 34 #[.val (.int (0 : Int32)), .val (.int (0 : Int32)), .unset] [(.ref a_WEAK_DENIAL)] t
    refine XS.astoreN X1.here hx rfl (hb hby d_prog_122_method_4_code_34) rfl rfl (l' := #[.val (.int (0 : Int32)), .val (.int (0 : Int32)), .val (.ref a_WEAK_DENIAL)]) rfl ?_
    show own_At p e below m T1 35 #[.val (.int (0 : Int32)), .val (.int (0 : Int32)), .val (.ref a_WEAK_DENIAL)] [] t
    refine XS.aloadN X1.here hx rfl (hb hby d_prog_122_method_4_code_35) rfl rfl ?_
    show own_At p e below m T1 36 #[.val (.int (0 : Int32)), .val (.int (0 : Int32)), .val (.ref a_WEAK_DENIAL)] [(.ref a_WEAK_DENIAL)] t
    exact k
  obtain ⟨fs, hr, hrun, hended, hW, hsame⟩ := X1.leave (v := some (.ref a_WEAK_DENIAL)) (fun h => by rw [Bd.returns] at h; cases h)
  refine hNG ⟨_, _, k2 _ ?_, hrun, hended, _, _, rfl, ?_, ⟨_, rfl⟩, hW, hsame.mono (by decide) (by decide)⟩
  · exact retOut X1 hx (t := (.object "com/example/gate3/gate3/model/Right")) Bd.returns rfl (Or.inr (Or.inr (Or.inr (Or.inr ⟨rfl, rfl, rfl⟩)))) (hb hby d_prog_122_method_4_code_36) hr
  · show Q_f1 Z a_STRONG_DENIAL a_WEAK_DENIAL a_STRONG_PERMISSION a_WEAK_PERMISSION h0 n0 _ T1.heap _
    rw [e1]
    exact ⟨rfl, N0, rfl⟩
theorem pd__ZZ_Lcom_example_gate3_gate3_model_Right_ : parseMethodDescriptor "(ZZ)Lcom/example/gate3/gate3/model/Right;" = some ⟨[.boolean, .boolean], some (.object "com/example/gate3/gate3/model/Right")⟩ := by decide +kernel
theorem ef_f2 (m : MethodId) (x0 : Addr)  : entryFrame m #[(.ref x0)] 1 = mkF m 0 #[.val (.ref x0)] [] := by first | (simp [entryFrame, mkF, argsToLocals, Value.category]; done) | rfl
theorem d_prog_122_method_5_code_0 : decode prog_122_method_5_code 0 = .ok (.aload_n 0, 1) := by decide +kernel
theorem d_prog_122_method_5_code_1 : decode prog_122_method_5_code 1 = .ok (.getfield 35, 3) := by decide +kernel
theorem d_prog_122_method_5_code_4 : decode prog_122_method_5_code 4 = .ok (.ireturn, 1) := by decide +kernel
abbrev own_m1 : MethodName := ⟨"com/example/gate3/gate3/model/Right", "isPermission", "()Z"⟩
def Q_f2 (Z : State) (a_STRONG_DENIAL : Addr) (a_WEAK_DENIAL : Addr) (a_STRONG_PERMISSION : Addr) (a_WEAK_PERMISSION : Addr) (h0 : Heap) (n0 : Nat) (v : Option Value) (h : Heap) (L : List Loc) : Prop := v = some (.int (0 : Int32)) ∧ Fr n0 L ∧ h = h0
set_option maxRecDepth 65536 in
set_option maxHeartbeats 40000000 in
theorem rm_f2 (l : Launch) (Z : State) (a0 : Array Value) (hw : ∀ d ∈ tables_1, d.before a0 Z = true) (ws : List Jvm.Cond) (a_STRONG_DENIAL : Addr) (a_WEAK_DENIAL : Addr) (a_STRONG_PERMISSION : Addr) (a_WEAK_PERMISSION : Addr) (h0 : Heap) (n0 : Nat) (O0 : Old Z n0 h0) (hE : EV Z a_STRONG_DENIAL a_WEAK_DENIAL a_STRONG_PERMISSION a_WEAK_PERMISSION) :
    MetFree l own_m1 (head1 (Jvm.Cond.code own_m1 prog_122_method_5_code 1 (some .boolean) :: ws) ({ frames := 0, cells := 0, slots := 0, locals := 0 } : Room)) (fun a U => a = #[(.ref a_WEAK_DENIAL)] ∧ Z.Warmed39 U.vm ∧ U.heap = h0) (fun _ _ _ _ _ => True) (fun _ U o U' => ∃ v L, o = .returned v ∧ Q_f2 Z a_STRONG_DENIAL a_WEAK_DENIAL a_STRONG_PERMISSION a_WEAK_PERMISSION h0 n0 v U'.heap L ∧ FrameEnd U o U' L ({ frames := 0, cells := 0, slots := 0, locals := 0 } : Room).cells ({ frames := 0, cells := 0, slots := 0, locals := 0 } : Room).slots) := by
  refine MetFree.of_bodySF (plainFor_of_name pn_com_example_gate3_gate3_model_Right) hisR ?_
  intro p e s m args below meth c s₁ Bd hml0 hP hK
  obtain ⟨rfl, hZ, hh⟩ := hP
  have hx := Bd.exec
  have hby := Bd.bytes
  have hml : c.maxLocals = 1 := hml0
  have hown : s.vm.findClass "com/example/gate3/gate3/model/Right" = some m.cls := findClass_of_methodNamed Bd.named
  have hnm := (name_of_methodNamed Bd.named Bd.method).1
  have X0 : Stand p l e ({ frames := 0, cells := 0, slots := 0, locals := 0 } : Room) s m #[(.ref a_WEAK_DENIAL)] below meth c s₁ [] 0 0 := Stand.of_body Bd
  have e0 : s₁.heap = h0 := by rw [← hh, Bd.state]; rfl
  have N0 := Fr.nil n0
  refine Classical.byContradiction fun hNG => ?_
  have K0 := Keep.refl h0 []
  have k0 : ∀ t, own_At p e below m s₁ 0 #[.val (.ref a_WEAK_DENIAL)] [] t → own_En p e below m s₁ #[(.ref a_WEAK_DENIAL)] 1 t := fun t k => castTop (ef_f2 m a_WEAK_DENIAL ) k
  obtain ⟨S_STRONG_DENIAL, E_STRONG_DENIAL, F_STRONG_DENIAL_permission, F_STRONG_DENIAL_strong, S_WEAK_DENIAL, E_WEAK_DENIAL, F_WEAK_DENIAL_permission, F_WEAK_DENIAL_strong, S_STRONG_PERMISSION, E_STRONG_PERMISSION, F_STRONG_PERMISSION_permission, F_STRONG_PERMISSION_strong, S_WEAK_PERMISSION, E_WEAK_PERMISSION, F_WEAK_PERMISSION_permission, F_WEAK_PERMISSION_strong⟩ := (id hE : EV Z a_STRONG_DENIAL a_WEAK_DENIAL a_STRONG_PERMISSION a_WEAK_PERMISSION)
  obtain ⟨T1, X1, e1, st1⟩ := getF X0 hx hZ hown (host := "") (Or.inl (own_w hw 11 rfl)) Via.refl e0 (F_WEAK_DENIAL_permission.ext O0.2) (g := (mkF m 1 #[.val (.ref a_WEAK_DENIAL)] [(.ref a_WEAK_DENIAL)])) rfl rfl (hb hby d_prog_122_method_5_code_1)
  have k2 : ∀ t, own_At p e below m T1 4 #[.val (.ref a_WEAK_DENIAL)] [(.int (0 : Int32))] t → own_En p e below m s₁ #[(.ref a_WEAK_DENIAL)] 1 t := by
    intro t k
    refine k0 t ?_
    refine XS.aloadN X0.here hx rfl (hb hby d_prog_122_method_5_code_0) rfl rfl ?_
    show own_At p e below m s₁ 1 #[.val (.ref a_WEAK_DENIAL)] [(.ref a_WEAK_DENIAL)] t
    refine st1 _ ?_
    show own_At p e below m T1 4 #[.val (.ref a_WEAK_DENIAL)] [(.int (0 : Int32))] t
    exact k
  obtain ⟨fs, hr, hrun, hended, hW, hsame⟩ := X1.leave (v := some (.int (0 : Int32))) (fun h => by rw [Bd.returns] at h; cases h)
  refine hNG ⟨_, _, k2 _ ?_, hrun, hended, _, _, rfl, ?_, ⟨_, rfl⟩, hW, hsame.mono (by decide) (by decide)⟩
  · exact retN X1 hx (t := .boolean) Bd.returns (by simp) (hb hby d_prog_122_method_5_code_4) hr
  · show Q_f2 Z a_STRONG_DENIAL a_WEAK_DENIAL a_STRONG_PERMISSION a_WEAK_PERMISSION h0 n0 _ T1.heap _
    rw [e1]
    exact ⟨rfl, N0, rfl⟩
theorem pd___Z : parseMethodDescriptor "()Z" = some ⟨[], some .boolean⟩ := by decide +kernel
theorem ef_f3 (m : MethodId) (x0 : Addr)  : entryFrame m #[(.ref x0)] 1 = mkF m 0 #[.val (.ref x0)] [] := by first | (simp [entryFrame, mkF, argsToLocals, Value.category]; done) | rfl
theorem d_prog_122_method_6_code_0 : decode prog_122_method_6_code 0 = .ok (.aload_n 0, 1) := by decide +kernel
theorem d_prog_122_method_6_code_1 : decode prog_122_method_6_code 1 = .ok (.getfield 39, 3) := by decide +kernel
theorem d_prog_122_method_6_code_4 : decode prog_122_method_6_code 4 = .ok (.ireturn, 1) := by decide +kernel
abbrev own_m2 : MethodName := ⟨"com/example/gate3/gate3/model/Right", "isStrong", "()Z"⟩
def Q_f3 (Z : State) (a_STRONG_DENIAL : Addr) (a_WEAK_DENIAL : Addr) (a_STRONG_PERMISSION : Addr) (a_WEAK_PERMISSION : Addr) (h0 : Heap) (n0 : Nat) (v : Option Value) (h : Heap) (L : List Loc) : Prop := v = some (.int (0 : Int32)) ∧ Fr n0 L ∧ h = h0
set_option maxRecDepth 65536 in
set_option maxHeartbeats 40000000 in
theorem rm_f3 (l : Launch) (Z : State) (a0 : Array Value) (hw : ∀ d ∈ tables_1, d.before a0 Z = true) (ws : List Jvm.Cond) (a_STRONG_DENIAL : Addr) (a_WEAK_DENIAL : Addr) (a_STRONG_PERMISSION : Addr) (a_WEAK_PERMISSION : Addr) (h0 : Heap) (n0 : Nat) (O0 : Old Z n0 h0) (hE : EV Z a_STRONG_DENIAL a_WEAK_DENIAL a_STRONG_PERMISSION a_WEAK_PERMISSION) :
    MetFree l own_m2 (head1 (Jvm.Cond.code own_m2 prog_122_method_6_code 1 (some .boolean) :: ws) ({ frames := 0, cells := 0, slots := 0, locals := 0 } : Room)) (fun a U => a = #[(.ref a_WEAK_DENIAL)] ∧ Z.Warmed39 U.vm ∧ U.heap = h0) (fun _ _ _ _ _ => True) (fun _ U o U' => ∃ v L, o = .returned v ∧ Q_f3 Z a_STRONG_DENIAL a_WEAK_DENIAL a_STRONG_PERMISSION a_WEAK_PERMISSION h0 n0 v U'.heap L ∧ FrameEnd U o U' L ({ frames := 0, cells := 0, slots := 0, locals := 0 } : Room).cells ({ frames := 0, cells := 0, slots := 0, locals := 0 } : Room).slots) := by
  refine MetFree.of_bodySF (plainFor_of_name pn_com_example_gate3_gate3_model_Right) hisR ?_
  intro p e s m args below meth c s₁ Bd hml0 hP hK
  obtain ⟨rfl, hZ, hh⟩ := hP
  have hx := Bd.exec
  have hby := Bd.bytes
  have hml : c.maxLocals = 1 := hml0
  have hown : s.vm.findClass "com/example/gate3/gate3/model/Right" = some m.cls := findClass_of_methodNamed Bd.named
  have hnm := (name_of_methodNamed Bd.named Bd.method).1
  have X0 : Stand p l e ({ frames := 0, cells := 0, slots := 0, locals := 0 } : Room) s m #[(.ref a_WEAK_DENIAL)] below meth c s₁ [] 0 0 := Stand.of_body Bd
  have e0 : s₁.heap = h0 := by rw [← hh, Bd.state]; rfl
  have N0 := Fr.nil n0
  refine Classical.byContradiction fun hNG => ?_
  have K0 := Keep.refl h0 []
  have k0 : ∀ t, own_At p e below m s₁ 0 #[.val (.ref a_WEAK_DENIAL)] [] t → own_En p e below m s₁ #[(.ref a_WEAK_DENIAL)] 1 t := fun t k => castTop (ef_f3 m a_WEAK_DENIAL ) k
  obtain ⟨S_STRONG_DENIAL, E_STRONG_DENIAL, F_STRONG_DENIAL_permission, F_STRONG_DENIAL_strong, S_WEAK_DENIAL, E_WEAK_DENIAL, F_WEAK_DENIAL_permission, F_WEAK_DENIAL_strong, S_STRONG_PERMISSION, E_STRONG_PERMISSION, F_STRONG_PERMISSION_permission, F_STRONG_PERMISSION_strong, S_WEAK_PERMISSION, E_WEAK_PERMISSION, F_WEAK_PERMISSION_permission, F_WEAK_PERMISSION_strong⟩ := (id hE : EV Z a_STRONG_DENIAL a_WEAK_DENIAL a_STRONG_PERMISSION a_WEAK_PERMISSION)
  obtain ⟨T1, X1, e1, st1⟩ := getF X0 hx hZ hown (host := "") (Or.inl (own_w hw 18 rfl)) Via.refl e0 (F_WEAK_DENIAL_strong.ext O0.2) (g := (mkF m 1 #[.val (.ref a_WEAK_DENIAL)] [(.ref a_WEAK_DENIAL)])) rfl rfl (hb hby d_prog_122_method_6_code_1)
  have k2 : ∀ t, own_At p e below m T1 4 #[.val (.ref a_WEAK_DENIAL)] [(.int (0 : Int32))] t → own_En p e below m s₁ #[(.ref a_WEAK_DENIAL)] 1 t := by
    intro t k
    refine k0 t ?_
    refine XS.aloadN X0.here hx rfl (hb hby d_prog_122_method_6_code_0) rfl rfl ?_
    show own_At p e below m s₁ 1 #[.val (.ref a_WEAK_DENIAL)] [(.ref a_WEAK_DENIAL)] t
    refine st1 _ ?_
    show own_At p e below m T1 4 #[.val (.ref a_WEAK_DENIAL)] [(.int (0 : Int32))] t
    exact k
  obtain ⟨fs, hr, hrun, hended, hW, hsame⟩ := X1.leave (v := some (.int (0 : Int32))) (fun h => by rw [Bd.returns] at h; cases h)
  refine hNG ⟨_, _, k2 _ ?_, hrun, hended, _, _, rfl, ?_, ⟨_, rfl⟩, hW, hsame.mono (by decide) (by decide)⟩
  · exact retN X1 hx (t := .boolean) Bd.returns (by simp) (hb hby d_prog_122_method_6_code_4) hr
  · show Q_f3 Z a_STRONG_DENIAL a_WEAK_DENIAL a_STRONG_PERMISSION a_WEAK_PERMISSION h0 n0 _ T1.heap _
    rw [e1]
    exact ⟨rfl, N0, rfl⟩
theorem ef_f4 (m : MethodId) (x0 : Int32) (x1 : Int32)  : entryFrame m #[(.int x0), (.int x1)] 3 = mkF m 0 #[.val (.int x0), .val (.int x1), .unset] [] := by first | (simp [entryFrame, mkF, argsToLocals, Value.category]; done) | rfl
theorem d_prog_122_method_4_code_25 : decode prog_122_method_4_code 25 = .ok (.getstatic 7, 3) := by decide +kernel
theorem d_prog_122_method_4_code_28 : decode prog_122_method_4_code 28 = .ok (.goto 6, 3) := by decide +kernel
def Q_f4 (Z : State) (a_STRONG_DENIAL : Addr) (a_WEAK_DENIAL : Addr) (a_STRONG_PERMISSION : Addr) (a_WEAK_PERMISSION : Addr) (h0 : Heap) (n0 : Nat) (v : Option Value) (h : Heap) (L : List Loc) : Prop := v = some (.ref a_STRONG_DENIAL) ∧ Fr n0 L ∧ h = h0
set_option maxRecDepth 65536 in
set_option maxHeartbeats 40000000 in
theorem rm_f4 (l : Launch) (Z : State) (a0 : Array Value) (hw : ∀ d ∈ tables_1, d.before a0 Z = true) (ws : List Jvm.Cond) (a_STRONG_DENIAL : Addr) (a_WEAK_DENIAL : Addr) (a_STRONG_PERMISSION : Addr) (a_WEAK_PERMISSION : Addr) (h0 : Heap) (n0 : Nat) (O0 : Old Z n0 h0) (hE : EV Z a_STRONG_DENIAL a_WEAK_DENIAL a_STRONG_PERMISSION a_WEAK_PERMISSION) :
    MetFree l own_m0 (head1 (Jvm.Cond.code own_m0 prog_122_method_4_code 3 (some (.object "com/example/gate3/gate3/model/Right")) :: ws) ({ frames := 0, cells := 0, slots := 0, locals := 0 } : Room)) (fun a U => a = #[(.int (0 : Int32)), (.int (1 : Int32))] ∧ Z.Warmed39 U.vm ∧ U.heap = h0) (fun _ _ _ _ _ => True) (fun _ U o U' => ∃ v L, o = .returned v ∧ Q_f4 Z a_STRONG_DENIAL a_WEAK_DENIAL a_STRONG_PERMISSION a_WEAK_PERMISSION h0 n0 v U'.heap L ∧ FrameEnd U o U' L ({ frames := 0, cells := 0, slots := 0, locals := 0 } : Room).cells ({ frames := 0, cells := 0, slots := 0, locals := 0 } : Room).slots) := by
  refine MetFree.of_bodySF (plainFor_of_name pn_com_example_gate3_gate3_model_Right) hisR ?_
  intro p e s m args below meth c s₁ Bd hml0 hP hK
  obtain ⟨rfl, hZ, hh⟩ := hP
  have hx := Bd.exec
  have hby := Bd.bytes
  have hml : c.maxLocals = 3 := hml0
  have hown : s.vm.findClass "com/example/gate3/gate3/model/Right" = some m.cls := findClass_of_methodNamed Bd.named
  have hnm := (name_of_methodNamed Bd.named Bd.method).1
  have X0 : Stand p l e ({ frames := 0, cells := 0, slots := 0, locals := 0 } : Room) s m #[(.int (0 : Int32)), (.int (1 : Int32))] below meth c s₁ [] 0 0 := Stand.of_body Bd
  have e0 : s₁.heap = h0 := by rw [← hh, Bd.state]; rfl
  have N0 := Fr.nil n0
  refine Classical.byContradiction fun hNG => ?_
  have K0 := Keep.refl h0 []
  have k0 : ∀ t, own_At p e below m s₁ 0 #[.val (.int (0 : Int32)), .val (.int (1 : Int32)), .unset] [] t → own_En p e below m s₁ #[(.int (0 : Int32)), (.int (1 : Int32))] 3 t := fun t k => castTop (ef_f4 m ((0 : Int32)) ((1 : Int32)) ) k
  obtain ⟨S_STRONG_DENIAL, E_STRONG_DENIAL, F_STRONG_DENIAL_permission, F_STRONG_DENIAL_strong, S_WEAK_DENIAL, E_WEAK_DENIAL, F_WEAK_DENIAL_permission, F_WEAK_DENIAL_strong, S_STRONG_PERMISSION, E_STRONG_PERMISSION, F_STRONG_PERMISSION_permission, F_STRONG_PERMISSION_strong, S_WEAK_PERMISSION, E_WEAK_PERMISSION, F_WEAK_PERMISSION_permission, F_WEAK_PERMISSION_strong⟩ := (id hE : EV Z a_STRONG_DENIAL a_WEAK_DENIAL a_STRONG_PERMISSION a_WEAK_PERMISSION)
  obtain ⟨T1, X1, e1, st1⟩ := getS2 X0 hx hZ hown (host := "") (Or.inl (own_w hw 4 rfl)) Via.refl e0 (S_STRONG_DENIAL.ext O0.2) (g := (mkF m 25 #[.val (.int (0 : Int32)), .val (.int (1 : Int32)), .unset] [])) rfl (hb hby d_prog_122_method_4_code_25)
  have k2 : ∀ t, own_At p e below m T1 36 #[.val (.int (0 : Int32)), .val (.int (1 : Int32)), .val (.ref a_STRONG_DENIAL)] [(.ref a_STRONG_DENIAL)] t → own_En p e below m s₁ #[(.int (0 : Int32)), (.int (1 : Int32))] 3 t := by
    intro t k
    refine k0 t ?_
    refine XS.iloadN X0.here hx rfl (hb hby d_prog_122_method_4_code_0) rfl ?_
    show own_At p e below m s₁ 1 #[.val (.int (0 : Int32)), .val (.int (1 : Int32)), .unset] [(.int (0 : Int32))] t
    refine XS.ifYes X0.here hx rfl (pc0 := 1) (pc' := 21) rfl (hb hby d_prog_122_method_4_code_1) rfl ((if0 _ _).trans (teq (by decide : (0 : Int32) = (0 : Int32))).1) (by decide) (by decide) ?_
    show own_At p e below m s₁ 21 #[.val (.int (0 : Int32)), .val (.int (1 : Int32)), .unset] [] t
    refine XS.iloadN X0.here hx rfl (hb hby d_prog_122_method_4_code_21) rfl ?_
    show own_At p e below m s₁ 22 #[.val (.int (0 : Int32)), .val (.int (1 : Int32)), .unset] [(.int (1 : Int32))] t
    refine XS.ifNo X0.here hx rfl (hb hby d_prog_122_method_4_code_22) rfl ((if0 _ _).trans (feq (by decide : ¬ ((1 : Int32) = (0 : Int32)))).1) ?_
    show own_At p e below m s₁ 25 #[.val (.int (0 : Int32)), .val (.int (1 : Int32)), .unset] [] t
    refine st1 _ ?_
    show own_At p e below m T1 28 #[.val (.int (0 : Int32)), .val (.int (1 : Int32)), .unset] [(.ref a_STRONG_DENIAL)] t
    refine XS.goto X1.here hx rfl (pc0 := 28) (pc' := 34) rfl (hb hby d_prog_122_method_4_code_28) (by decide) (by decide) ?_
    show own_At p e below m T1 34 #[.val (.int (0 : Int32)), .val (.int (1 : Int32)), .unset] [(.ref a_STRONG_DENIAL)] t
    refine XS.astoreN X1.here hx rfl (hb hby d_prog_122_method_4_code_34) rfl rfl (l' := #[.val (.int (0 : Int32)), .val (.int (1 : Int32)), .val (.ref a_STRONG_DENIAL)]) rfl ?_
    show own_At p e below m T1 35 #[.val (.int (0 : Int32)), .val (.int (1 : Int32)), .val (.ref a_STRONG_DENIAL)] [] t
    refine XS.aloadN X1.here hx rfl (hb hby d_prog_122_method_4_code_35) rfl rfl ?_
    show own_At p e below m T1 36 #[.val (.int (0 : Int32)), .val (.int (1 : Int32)), .val (.ref a_STRONG_DENIAL)] [(.ref a_STRONG_DENIAL)] t
    exact k
  obtain ⟨fs, hr, hrun, hended, hW, hsame⟩ := X1.leave (v := some (.ref a_STRONG_DENIAL)) (fun h => by rw [Bd.returns] at h; cases h)
  refine hNG ⟨_, _, k2 _ ?_, hrun, hended, _, _, rfl, ?_, ⟨_, rfl⟩, hW, hsame.mono (by decide) (by decide)⟩
  · exact retOut X1 hx (t := (.object "com/example/gate3/gate3/model/Right")) Bd.returns rfl (Or.inr (Or.inr (Or.inr (Or.inr ⟨rfl, rfl, rfl⟩)))) (hb hby d_prog_122_method_4_code_36) hr
  · show Q_f4 Z a_STRONG_DENIAL a_WEAK_DENIAL a_STRONG_PERMISSION a_WEAK_PERMISSION h0 n0 _ T1.heap _
    rw [e1]
    exact ⟨rfl, N0, rfl⟩
theorem ef_f5 (m : MethodId) (x0 : Addr)  : entryFrame m #[(.ref x0)] 1 = mkF m 0 #[.val (.ref x0)] [] := by first | (simp [entryFrame, mkF, argsToLocals, Value.category]; done) | rfl
def Q_f5 (Z : State) (a_STRONG_DENIAL : Addr) (a_WEAK_DENIAL : Addr) (a_STRONG_PERMISSION : Addr) (a_WEAK_PERMISSION : Addr) (h0 : Heap) (n0 : Nat) (v : Option Value) (h : Heap) (L : List Loc) : Prop := v = some (.int (0 : Int32)) ∧ Fr n0 L ∧ h = h0
set_option maxRecDepth 65536 in
set_option maxHeartbeats 40000000 in
theorem rm_f5 (l : Launch) (Z : State) (a0 : Array Value) (hw : ∀ d ∈ tables_1, d.before a0 Z = true) (ws : List Jvm.Cond) (a_STRONG_DENIAL : Addr) (a_WEAK_DENIAL : Addr) (a_STRONG_PERMISSION : Addr) (a_WEAK_PERMISSION : Addr) (h0 : Heap) (n0 : Nat) (O0 : Old Z n0 h0) (hE : EV Z a_STRONG_DENIAL a_WEAK_DENIAL a_STRONG_PERMISSION a_WEAK_PERMISSION) :
    MetFree l own_m1 (head1 (Jvm.Cond.code own_m1 prog_122_method_5_code 1 (some .boolean) :: ws) ({ frames := 0, cells := 0, slots := 0, locals := 0 } : Room)) (fun a U => a = #[(.ref a_STRONG_DENIAL)] ∧ Z.Warmed39 U.vm ∧ U.heap = h0) (fun _ _ _ _ _ => True) (fun _ U o U' => ∃ v L, o = .returned v ∧ Q_f5 Z a_STRONG_DENIAL a_WEAK_DENIAL a_STRONG_PERMISSION a_WEAK_PERMISSION h0 n0 v U'.heap L ∧ FrameEnd U o U' L ({ frames := 0, cells := 0, slots := 0, locals := 0 } : Room).cells ({ frames := 0, cells := 0, slots := 0, locals := 0 } : Room).slots) := by
  refine MetFree.of_bodySF (plainFor_of_name pn_com_example_gate3_gate3_model_Right) hisR ?_
  intro p e s m args below meth c s₁ Bd hml0 hP hK
  obtain ⟨rfl, hZ, hh⟩ := hP
  have hx := Bd.exec
  have hby := Bd.bytes
  have hml : c.maxLocals = 1 := hml0
  have hown : s.vm.findClass "com/example/gate3/gate3/model/Right" = some m.cls := findClass_of_methodNamed Bd.named
  have hnm := (name_of_methodNamed Bd.named Bd.method).1
  have X0 : Stand p l e ({ frames := 0, cells := 0, slots := 0, locals := 0 } : Room) s m #[(.ref a_STRONG_DENIAL)] below meth c s₁ [] 0 0 := Stand.of_body Bd
  have e0 : s₁.heap = h0 := by rw [← hh, Bd.state]; rfl
  have N0 := Fr.nil n0
  refine Classical.byContradiction fun hNG => ?_
  have K0 := Keep.refl h0 []
  have k0 : ∀ t, own_At p e below m s₁ 0 #[.val (.ref a_STRONG_DENIAL)] [] t → own_En p e below m s₁ #[(.ref a_STRONG_DENIAL)] 1 t := fun t k => castTop (ef_f5 m a_STRONG_DENIAL ) k
  obtain ⟨S_STRONG_DENIAL, E_STRONG_DENIAL, F_STRONG_DENIAL_permission, F_STRONG_DENIAL_strong, S_WEAK_DENIAL, E_WEAK_DENIAL, F_WEAK_DENIAL_permission, F_WEAK_DENIAL_strong, S_STRONG_PERMISSION, E_STRONG_PERMISSION, F_STRONG_PERMISSION_permission, F_STRONG_PERMISSION_strong, S_WEAK_PERMISSION, E_WEAK_PERMISSION, F_WEAK_PERMISSION_permission, F_WEAK_PERMISSION_strong⟩ := (id hE : EV Z a_STRONG_DENIAL a_WEAK_DENIAL a_STRONG_PERMISSION a_WEAK_PERMISSION)
  obtain ⟨T1, X1, e1, st1⟩ := getF X0 hx hZ hown (host := "") (Or.inl (own_w hw 11 rfl)) Via.refl e0 (F_STRONG_DENIAL_permission.ext O0.2) (g := (mkF m 1 #[.val (.ref a_STRONG_DENIAL)] [(.ref a_STRONG_DENIAL)])) rfl rfl (hb hby d_prog_122_method_5_code_1)
  have k2 : ∀ t, own_At p e below m T1 4 #[.val (.ref a_STRONG_DENIAL)] [(.int (0 : Int32))] t → own_En p e below m s₁ #[(.ref a_STRONG_DENIAL)] 1 t := by
    intro t k
    refine k0 t ?_
    refine XS.aloadN X0.here hx rfl (hb hby d_prog_122_method_5_code_0) rfl rfl ?_
    show own_At p e below m s₁ 1 #[.val (.ref a_STRONG_DENIAL)] [(.ref a_STRONG_DENIAL)] t
    refine st1 _ ?_
    show own_At p e below m T1 4 #[.val (.ref a_STRONG_DENIAL)] [(.int (0 : Int32))] t
    exact k
  obtain ⟨fs, hr, hrun, hended, hW, hsame⟩ := X1.leave (v := some (.int (0 : Int32))) (fun h => by rw [Bd.returns] at h; cases h)
  refine hNG ⟨_, _, k2 _ ?_, hrun, hended, _, _, rfl, ?_, ⟨_, rfl⟩, hW, hsame.mono (by decide) (by decide)⟩
  · exact retN X1 hx (t := .boolean) Bd.returns (by simp) (hb hby d_prog_122_method_5_code_4) hr
  · show Q_f5 Z a_STRONG_DENIAL a_WEAK_DENIAL a_STRONG_PERMISSION a_WEAK_PERMISSION h0 n0 _ T1.heap _
    rw [e1]
    exact ⟨rfl, N0, rfl⟩
theorem ef_f6 (m : MethodId) (x0 : Addr)  : entryFrame m #[(.ref x0)] 1 = mkF m 0 #[.val (.ref x0)] [] := by first | (simp [entryFrame, mkF, argsToLocals, Value.category]; done) | rfl
def Q_f6 (Z : State) (a_STRONG_DENIAL : Addr) (a_WEAK_DENIAL : Addr) (a_STRONG_PERMISSION : Addr) (a_WEAK_PERMISSION : Addr) (h0 : Heap) (n0 : Nat) (v : Option Value) (h : Heap) (L : List Loc) : Prop := v = some (.int (1 : Int32)) ∧ Fr n0 L ∧ h = h0
set_option maxRecDepth 65536 in
set_option maxHeartbeats 40000000 in
theorem rm_f6 (l : Launch) (Z : State) (a0 : Array Value) (hw : ∀ d ∈ tables_1, d.before a0 Z = true) (ws : List Jvm.Cond) (a_STRONG_DENIAL : Addr) (a_WEAK_DENIAL : Addr) (a_STRONG_PERMISSION : Addr) (a_WEAK_PERMISSION : Addr) (h0 : Heap) (n0 : Nat) (O0 : Old Z n0 h0) (hE : EV Z a_STRONG_DENIAL a_WEAK_DENIAL a_STRONG_PERMISSION a_WEAK_PERMISSION) :
    MetFree l own_m2 (head1 (Jvm.Cond.code own_m2 prog_122_method_6_code 1 (some .boolean) :: ws) ({ frames := 0, cells := 0, slots := 0, locals := 0 } : Room)) (fun a U => a = #[(.ref a_STRONG_DENIAL)] ∧ Z.Warmed39 U.vm ∧ U.heap = h0) (fun _ _ _ _ _ => True) (fun _ U o U' => ∃ v L, o = .returned v ∧ Q_f6 Z a_STRONG_DENIAL a_WEAK_DENIAL a_STRONG_PERMISSION a_WEAK_PERMISSION h0 n0 v U'.heap L ∧ FrameEnd U o U' L ({ frames := 0, cells := 0, slots := 0, locals := 0 } : Room).cells ({ frames := 0, cells := 0, slots := 0, locals := 0 } : Room).slots) := by
  refine MetFree.of_bodySF (plainFor_of_name pn_com_example_gate3_gate3_model_Right) hisR ?_
  intro p e s m args below meth c s₁ Bd hml0 hP hK
  obtain ⟨rfl, hZ, hh⟩ := hP
  have hx := Bd.exec
  have hby := Bd.bytes
  have hml : c.maxLocals = 1 := hml0
  have hown : s.vm.findClass "com/example/gate3/gate3/model/Right" = some m.cls := findClass_of_methodNamed Bd.named
  have hnm := (name_of_methodNamed Bd.named Bd.method).1
  have X0 : Stand p l e ({ frames := 0, cells := 0, slots := 0, locals := 0 } : Room) s m #[(.ref a_STRONG_DENIAL)] below meth c s₁ [] 0 0 := Stand.of_body Bd
  have e0 : s₁.heap = h0 := by rw [← hh, Bd.state]; rfl
  have N0 := Fr.nil n0
  refine Classical.byContradiction fun hNG => ?_
  have K0 := Keep.refl h0 []
  have k0 : ∀ t, own_At p e below m s₁ 0 #[.val (.ref a_STRONG_DENIAL)] [] t → own_En p e below m s₁ #[(.ref a_STRONG_DENIAL)] 1 t := fun t k => castTop (ef_f6 m a_STRONG_DENIAL ) k
  obtain ⟨S_STRONG_DENIAL, E_STRONG_DENIAL, F_STRONG_DENIAL_permission, F_STRONG_DENIAL_strong, S_WEAK_DENIAL, E_WEAK_DENIAL, F_WEAK_DENIAL_permission, F_WEAK_DENIAL_strong, S_STRONG_PERMISSION, E_STRONG_PERMISSION, F_STRONG_PERMISSION_permission, F_STRONG_PERMISSION_strong, S_WEAK_PERMISSION, E_WEAK_PERMISSION, F_WEAK_PERMISSION_permission, F_WEAK_PERMISSION_strong⟩ := (id hE : EV Z a_STRONG_DENIAL a_WEAK_DENIAL a_STRONG_PERMISSION a_WEAK_PERMISSION)
  obtain ⟨T1, X1, e1, st1⟩ := getF X0 hx hZ hown (host := "") (Or.inl (own_w hw 18 rfl)) Via.refl e0 (F_STRONG_DENIAL_strong.ext O0.2) (g := (mkF m 1 #[.val (.ref a_STRONG_DENIAL)] [(.ref a_STRONG_DENIAL)])) rfl rfl (hb hby d_prog_122_method_6_code_1)
  have k2 : ∀ t, own_At p e below m T1 4 #[.val (.ref a_STRONG_DENIAL)] [(.int (1 : Int32))] t → own_En p e below m s₁ #[(.ref a_STRONG_DENIAL)] 1 t := by
    intro t k
    refine k0 t ?_
    refine XS.aloadN X0.here hx rfl (hb hby d_prog_122_method_6_code_0) rfl rfl ?_
    show own_At p e below m s₁ 1 #[.val (.ref a_STRONG_DENIAL)] [(.ref a_STRONG_DENIAL)] t
    refine st1 _ ?_
    show own_At p e below m T1 4 #[.val (.ref a_STRONG_DENIAL)] [(.int (1 : Int32))] t
    exact k
  obtain ⟨fs, hr, hrun, hended, hW, hsame⟩ := X1.leave (v := some (.int (1 : Int32))) (fun h => by rw [Bd.returns] at h; cases h)
  refine hNG ⟨_, _, k2 _ ?_, hrun, hended, _, _, rfl, ?_, ⟨_, rfl⟩, hW, hsame.mono (by decide) (by decide)⟩
  · exact retN X1 hx (t := .boolean) Bd.returns (by simp) (hb hby d_prog_122_method_6_code_4) hr
  · show Q_f6 Z a_STRONG_DENIAL a_WEAK_DENIAL a_STRONG_PERMISSION a_WEAK_PERMISSION h0 n0 _ T1.heap _
    rw [e1]
    exact ⟨rfl, N0, rfl⟩
theorem ef_f7 (m : MethodId) (x0 : Int32) (x1 : Int32)  : entryFrame m #[(.int x0), (.int x1)] 3 = mkF m 0 #[.val (.int x0), .val (.int x1), .unset] [] := by first | (simp [entryFrame, mkF, argsToLocals, Value.category]; done) | rfl
theorem d_prog_122_method_4_code_4 : decode prog_122_method_4_code 4 = .ok (.iload_n 1, 1) := by decide +kernel
theorem d_prog_122_method_4_code_5 : decode prog_122_method_4_code 5 = .ok (.ifCond .eq 9, 3) := by decide +kernel
theorem d_prog_122_method_4_code_14 : decode prog_122_method_4_code 14 = .ok (.getstatic 13, 3) := by decide +kernel
theorem d_prog_122_method_4_code_17 : decode prog_122_method_4_code 17 = .ok (.astore_n 2, 1) := by decide +kernel
theorem d_prog_122_method_4_code_18 : decode prog_122_method_4_code 18 = .ok (.goto 17, 3) := by decide +kernel
def Q_f7 (Z : State) (a_STRONG_DENIAL : Addr) (a_WEAK_DENIAL : Addr) (a_STRONG_PERMISSION : Addr) (a_WEAK_PERMISSION : Addr) (h0 : Heap) (n0 : Nat) (v : Option Value) (h : Heap) (L : List Loc) : Prop := v = some (.ref a_WEAK_PERMISSION) ∧ Fr n0 L ∧ h = h0
set_option maxRecDepth 65536 in
set_option maxHeartbeats 40000000 in
theorem rm_f7 (l : Launch) (Z : State) (a0 : Array Value) (hw : ∀ d ∈ tables_1, d.before a0 Z = true) (ws : List Jvm.Cond) (a_STRONG_DENIAL : Addr) (a_WEAK_DENIAL : Addr) (a_STRONG_PERMISSION : Addr) (a_WEAK_PERMISSION : Addr) (h0 : Heap) (n0 : Nat) (O0 : Old Z n0 h0) (hE : EV Z a_STRONG_DENIAL a_WEAK_DENIAL a_STRONG_PERMISSION a_WEAK_PERMISSION) :
    MetFree l own_m0 (head1 (Jvm.Cond.code own_m0 prog_122_method_4_code 3 (some (.object "com/example/gate3/gate3/model/Right")) :: ws) ({ frames := 0, cells := 0, slots := 0, locals := 0 } : Room)) (fun a U => a = #[(.int (1 : Int32)), (.int (0 : Int32))] ∧ Z.Warmed39 U.vm ∧ U.heap = h0) (fun _ _ _ _ _ => True) (fun _ U o U' => ∃ v L, o = .returned v ∧ Q_f7 Z a_STRONG_DENIAL a_WEAK_DENIAL a_STRONG_PERMISSION a_WEAK_PERMISSION h0 n0 v U'.heap L ∧ FrameEnd U o U' L ({ frames := 0, cells := 0, slots := 0, locals := 0 } : Room).cells ({ frames := 0, cells := 0, slots := 0, locals := 0 } : Room).slots) := by
  refine MetFree.of_bodySF (plainFor_of_name pn_com_example_gate3_gate3_model_Right) hisR ?_
  intro p e s m args below meth c s₁ Bd hml0 hP hK
  obtain ⟨rfl, hZ, hh⟩ := hP
  have hx := Bd.exec
  have hby := Bd.bytes
  have hml : c.maxLocals = 3 := hml0
  have hown : s.vm.findClass "com/example/gate3/gate3/model/Right" = some m.cls := findClass_of_methodNamed Bd.named
  have hnm := (name_of_methodNamed Bd.named Bd.method).1
  have X0 : Stand p l e ({ frames := 0, cells := 0, slots := 0, locals := 0 } : Room) s m #[(.int (1 : Int32)), (.int (0 : Int32))] below meth c s₁ [] 0 0 := Stand.of_body Bd
  have e0 : s₁.heap = h0 := by rw [← hh, Bd.state]; rfl
  have N0 := Fr.nil n0
  refine Classical.byContradiction fun hNG => ?_
  have K0 := Keep.refl h0 []
  have k0 : ∀ t, own_At p e below m s₁ 0 #[.val (.int (1 : Int32)), .val (.int (0 : Int32)), .unset] [] t → own_En p e below m s₁ #[(.int (1 : Int32)), (.int (0 : Int32))] 3 t := fun t k => castTop (ef_f7 m ((1 : Int32)) ((0 : Int32)) ) k
  obtain ⟨S_STRONG_DENIAL, E_STRONG_DENIAL, F_STRONG_DENIAL_permission, F_STRONG_DENIAL_strong, S_WEAK_DENIAL, E_WEAK_DENIAL, F_WEAK_DENIAL_permission, F_WEAK_DENIAL_strong, S_STRONG_PERMISSION, E_STRONG_PERMISSION, F_STRONG_PERMISSION_permission, F_STRONG_PERMISSION_strong, S_WEAK_PERMISSION, E_WEAK_PERMISSION, F_WEAK_PERMISSION_permission, F_WEAK_PERMISSION_strong⟩ := (id hE : EV Z a_STRONG_DENIAL a_WEAK_DENIAL a_STRONG_PERMISSION a_WEAK_PERMISSION)
  obtain ⟨T1, X1, e1, st1⟩ := getS2 X0 hx hZ hown (host := "") (Or.inl (own_w hw 24 rfl)) Via.refl e0 (S_WEAK_PERMISSION.ext O0.2) (g := (mkF m 14 #[.val (.int (1 : Int32)), .val (.int (0 : Int32)), .unset] [])) rfl (hb hby d_prog_122_method_4_code_14)
  have k2 : ∀ t, own_At p e below m T1 36 #[.val (.int (1 : Int32)), .val (.int (0 : Int32)), .val (.ref a_WEAK_PERMISSION)] [(.ref a_WEAK_PERMISSION)] t → own_En p e below m s₁ #[(.int (1 : Int32)), (.int (0 : Int32))] 3 t := by
    intro t k
    refine k0 t ?_
    refine XS.iloadN X0.here hx rfl (hb hby d_prog_122_method_4_code_0) rfl ?_
    show own_At p e below m s₁ 1 #[.val (.int (1 : Int32)), .val (.int (0 : Int32)), .unset] [(.int (1 : Int32))] t
    refine XS.ifNo X0.here hx rfl (hb hby d_prog_122_method_4_code_1) rfl ((if0 _ _).trans (feq (by decide : ¬ ((1 : Int32) = (0 : Int32)))).1) ?_
    show own_At p e below m s₁ 4 #[.val (.int (1 : Int32)), .val (.int (0 : Int32)), .unset] [] t
    refine XS.iloadN X0.here hx rfl (hb hby d_prog_122_method_4_code_4) rfl ?_
    show own_At p e below m s₁ 5 #[.val (.int (1 : Int32)), .val (.int (0 : Int32)), .unset] [(.int (0 : Int32))] t
    refine XS.ifYes X0.here hx rfl (pc0 := 5) (pc' := 14) rfl (hb hby d_prog_122_method_4_code_5) rfl ((if0 _ _).trans (teq (by decide : (0 : Int32) = (0 : Int32))).1) (by decide) (by decide) ?_
    show own_At p e below m s₁ 14 #[.val (.int (1 : Int32)), .val (.int (0 : Int32)), .unset] [] t
    refine st1 _ ?_
    show own_At p e below m T1 17 #[.val (.int (1 : Int32)), .val (.int (0 : Int32)), .unset] [(.ref a_WEAK_PERMISSION)] t
    refine XS.astoreN X1.here hx rfl (hb hby d_prog_122_method_4_code_17) rfl rfl (l' := #[.val (.int (1 : Int32)), .val (.int (0 : Int32)), .val (.ref a_WEAK_PERMISSION)]) rfl ?_
    show own_At p e below m T1 18 #[.val (.int (1 : Int32)), .val (.int (0 : Int32)), .val (.ref a_WEAK_PERMISSION)] [] t
    refine XS.goto X1.here hx rfl (pc0 := 18) (pc' := 35) rfl (hb hby d_prog_122_method_4_code_18) (by decide) (by decide) ?_
    show own_At p e below m T1 35 #[.val (.int (1 : Int32)), .val (.int (0 : Int32)), .val (.ref a_WEAK_PERMISSION)] [] t
    refine XS.aloadN X1.here hx rfl (hb hby d_prog_122_method_4_code_35) rfl rfl ?_
    show own_At p e below m T1 36 #[.val (.int (1 : Int32)), .val (.int (0 : Int32)), .val (.ref a_WEAK_PERMISSION)] [(.ref a_WEAK_PERMISSION)] t
    exact k
  obtain ⟨fs, hr, hrun, hended, hW, hsame⟩ := X1.leave (v := some (.ref a_WEAK_PERMISSION)) (fun h => by rw [Bd.returns] at h; cases h)
  refine hNG ⟨_, _, k2 _ ?_, hrun, hended, _, _, rfl, ?_, ⟨_, rfl⟩, hW, hsame.mono (by decide) (by decide)⟩
  · exact retOut X1 hx (t := (.object "com/example/gate3/gate3/model/Right")) Bd.returns rfl (Or.inr (Or.inr (Or.inr (Or.inr ⟨rfl, rfl, rfl⟩)))) (hb hby d_prog_122_method_4_code_36) hr
  · show Q_f7 Z a_STRONG_DENIAL a_WEAK_DENIAL a_STRONG_PERMISSION a_WEAK_PERMISSION h0 n0 _ T1.heap _
    rw [e1]
    exact ⟨rfl, N0, rfl⟩
theorem ef_f8 (m : MethodId) (x0 : Addr)  : entryFrame m #[(.ref x0)] 1 = mkF m 0 #[.val (.ref x0)] [] := by first | (simp [entryFrame, mkF, argsToLocals, Value.category]; done) | rfl
def Q_f8 (Z : State) (a_STRONG_DENIAL : Addr) (a_WEAK_DENIAL : Addr) (a_STRONG_PERMISSION : Addr) (a_WEAK_PERMISSION : Addr) (h0 : Heap) (n0 : Nat) (v : Option Value) (h : Heap) (L : List Loc) : Prop := v = some (.int (1 : Int32)) ∧ Fr n0 L ∧ h = h0
set_option maxRecDepth 65536 in
set_option maxHeartbeats 40000000 in
theorem rm_f8 (l : Launch) (Z : State) (a0 : Array Value) (hw : ∀ d ∈ tables_1, d.before a0 Z = true) (ws : List Jvm.Cond) (a_STRONG_DENIAL : Addr) (a_WEAK_DENIAL : Addr) (a_STRONG_PERMISSION : Addr) (a_WEAK_PERMISSION : Addr) (h0 : Heap) (n0 : Nat) (O0 : Old Z n0 h0) (hE : EV Z a_STRONG_DENIAL a_WEAK_DENIAL a_STRONG_PERMISSION a_WEAK_PERMISSION) :
    MetFree l own_m1 (head1 (Jvm.Cond.code own_m1 prog_122_method_5_code 1 (some .boolean) :: ws) ({ frames := 0, cells := 0, slots := 0, locals := 0 } : Room)) (fun a U => a = #[(.ref a_WEAK_PERMISSION)] ∧ Z.Warmed39 U.vm ∧ U.heap = h0) (fun _ _ _ _ _ => True) (fun _ U o U' => ∃ v L, o = .returned v ∧ Q_f8 Z a_STRONG_DENIAL a_WEAK_DENIAL a_STRONG_PERMISSION a_WEAK_PERMISSION h0 n0 v U'.heap L ∧ FrameEnd U o U' L ({ frames := 0, cells := 0, slots := 0, locals := 0 } : Room).cells ({ frames := 0, cells := 0, slots := 0, locals := 0 } : Room).slots) := by
  refine MetFree.of_bodySF (plainFor_of_name pn_com_example_gate3_gate3_model_Right) hisR ?_
  intro p e s m args below meth c s₁ Bd hml0 hP hK
  obtain ⟨rfl, hZ, hh⟩ := hP
  have hx := Bd.exec
  have hby := Bd.bytes
  have hml : c.maxLocals = 1 := hml0
  have hown : s.vm.findClass "com/example/gate3/gate3/model/Right" = some m.cls := findClass_of_methodNamed Bd.named
  have hnm := (name_of_methodNamed Bd.named Bd.method).1
  have X0 : Stand p l e ({ frames := 0, cells := 0, slots := 0, locals := 0 } : Room) s m #[(.ref a_WEAK_PERMISSION)] below meth c s₁ [] 0 0 := Stand.of_body Bd
  have e0 : s₁.heap = h0 := by rw [← hh, Bd.state]; rfl
  have N0 := Fr.nil n0
  refine Classical.byContradiction fun hNG => ?_
  have K0 := Keep.refl h0 []
  have k0 : ∀ t, own_At p e below m s₁ 0 #[.val (.ref a_WEAK_PERMISSION)] [] t → own_En p e below m s₁ #[(.ref a_WEAK_PERMISSION)] 1 t := fun t k => castTop (ef_f8 m a_WEAK_PERMISSION ) k
  obtain ⟨S_STRONG_DENIAL, E_STRONG_DENIAL, F_STRONG_DENIAL_permission, F_STRONG_DENIAL_strong, S_WEAK_DENIAL, E_WEAK_DENIAL, F_WEAK_DENIAL_permission, F_WEAK_DENIAL_strong, S_STRONG_PERMISSION, E_STRONG_PERMISSION, F_STRONG_PERMISSION_permission, F_STRONG_PERMISSION_strong, S_WEAK_PERMISSION, E_WEAK_PERMISSION, F_WEAK_PERMISSION_permission, F_WEAK_PERMISSION_strong⟩ := (id hE : EV Z a_STRONG_DENIAL a_WEAK_DENIAL a_STRONG_PERMISSION a_WEAK_PERMISSION)
  obtain ⟨T1, X1, e1, st1⟩ := getF X0 hx hZ hown (host := "") (Or.inl (own_w hw 11 rfl)) Via.refl e0 (F_WEAK_PERMISSION_permission.ext O0.2) (g := (mkF m 1 #[.val (.ref a_WEAK_PERMISSION)] [(.ref a_WEAK_PERMISSION)])) rfl rfl (hb hby d_prog_122_method_5_code_1)
  have k2 : ∀ t, own_At p e below m T1 4 #[.val (.ref a_WEAK_PERMISSION)] [(.int (1 : Int32))] t → own_En p e below m s₁ #[(.ref a_WEAK_PERMISSION)] 1 t := by
    intro t k
    refine k0 t ?_
    refine XS.aloadN X0.here hx rfl (hb hby d_prog_122_method_5_code_0) rfl rfl ?_
    show own_At p e below m s₁ 1 #[.val (.ref a_WEAK_PERMISSION)] [(.ref a_WEAK_PERMISSION)] t
    refine st1 _ ?_
    show own_At p e below m T1 4 #[.val (.ref a_WEAK_PERMISSION)] [(.int (1 : Int32))] t
    exact k
  obtain ⟨fs, hr, hrun, hended, hW, hsame⟩ := X1.leave (v := some (.int (1 : Int32))) (fun h => by rw [Bd.returns] at h; cases h)
  refine hNG ⟨_, _, k2 _ ?_, hrun, hended, _, _, rfl, ?_, ⟨_, rfl⟩, hW, hsame.mono (by decide) (by decide)⟩
  · exact retN X1 hx (t := .boolean) Bd.returns (by simp) (hb hby d_prog_122_method_5_code_4) hr
  · show Q_f8 Z a_STRONG_DENIAL a_WEAK_DENIAL a_STRONG_PERMISSION a_WEAK_PERMISSION h0 n0 _ T1.heap _
    rw [e1]
    exact ⟨rfl, N0, rfl⟩
theorem ef_f9 (m : MethodId) (x0 : Addr)  : entryFrame m #[(.ref x0)] 1 = mkF m 0 #[.val (.ref x0)] [] := by first | (simp [entryFrame, mkF, argsToLocals, Value.category]; done) | rfl
def Q_f9 (Z : State) (a_STRONG_DENIAL : Addr) (a_WEAK_DENIAL : Addr) (a_STRONG_PERMISSION : Addr) (a_WEAK_PERMISSION : Addr) (h0 : Heap) (n0 : Nat) (v : Option Value) (h : Heap) (L : List Loc) : Prop := v = some (.int (0 : Int32)) ∧ Fr n0 L ∧ h = h0
set_option maxRecDepth 65536 in
set_option maxHeartbeats 40000000 in
theorem rm_f9 (l : Launch) (Z : State) (a0 : Array Value) (hw : ∀ d ∈ tables_1, d.before a0 Z = true) (ws : List Jvm.Cond) (a_STRONG_DENIAL : Addr) (a_WEAK_DENIAL : Addr) (a_STRONG_PERMISSION : Addr) (a_WEAK_PERMISSION : Addr) (h0 : Heap) (n0 : Nat) (O0 : Old Z n0 h0) (hE : EV Z a_STRONG_DENIAL a_WEAK_DENIAL a_STRONG_PERMISSION a_WEAK_PERMISSION) :
    MetFree l own_m2 (head1 (Jvm.Cond.code own_m2 prog_122_method_6_code 1 (some .boolean) :: ws) ({ frames := 0, cells := 0, slots := 0, locals := 0 } : Room)) (fun a U => a = #[(.ref a_WEAK_PERMISSION)] ∧ Z.Warmed39 U.vm ∧ U.heap = h0) (fun _ _ _ _ _ => True) (fun _ U o U' => ∃ v L, o = .returned v ∧ Q_f9 Z a_STRONG_DENIAL a_WEAK_DENIAL a_STRONG_PERMISSION a_WEAK_PERMISSION h0 n0 v U'.heap L ∧ FrameEnd U o U' L ({ frames := 0, cells := 0, slots := 0, locals := 0 } : Room).cells ({ frames := 0, cells := 0, slots := 0, locals := 0 } : Room).slots) := by
  refine MetFree.of_bodySF (plainFor_of_name pn_com_example_gate3_gate3_model_Right) hisR ?_
  intro p e s m args below meth c s₁ Bd hml0 hP hK
  obtain ⟨rfl, hZ, hh⟩ := hP
  have hx := Bd.exec
  have hby := Bd.bytes
  have hml : c.maxLocals = 1 := hml0
  have hown : s.vm.findClass "com/example/gate3/gate3/model/Right" = some m.cls := findClass_of_methodNamed Bd.named
  have hnm := (name_of_methodNamed Bd.named Bd.method).1
  have X0 : Stand p l e ({ frames := 0, cells := 0, slots := 0, locals := 0 } : Room) s m #[(.ref a_WEAK_PERMISSION)] below meth c s₁ [] 0 0 := Stand.of_body Bd
  have e0 : s₁.heap = h0 := by rw [← hh, Bd.state]; rfl
  have N0 := Fr.nil n0
  refine Classical.byContradiction fun hNG => ?_
  have K0 := Keep.refl h0 []
  have k0 : ∀ t, own_At p e below m s₁ 0 #[.val (.ref a_WEAK_PERMISSION)] [] t → own_En p e below m s₁ #[(.ref a_WEAK_PERMISSION)] 1 t := fun t k => castTop (ef_f9 m a_WEAK_PERMISSION ) k
  obtain ⟨S_STRONG_DENIAL, E_STRONG_DENIAL, F_STRONG_DENIAL_permission, F_STRONG_DENIAL_strong, S_WEAK_DENIAL, E_WEAK_DENIAL, F_WEAK_DENIAL_permission, F_WEAK_DENIAL_strong, S_STRONG_PERMISSION, E_STRONG_PERMISSION, F_STRONG_PERMISSION_permission, F_STRONG_PERMISSION_strong, S_WEAK_PERMISSION, E_WEAK_PERMISSION, F_WEAK_PERMISSION_permission, F_WEAK_PERMISSION_strong⟩ := (id hE : EV Z a_STRONG_DENIAL a_WEAK_DENIAL a_STRONG_PERMISSION a_WEAK_PERMISSION)
  obtain ⟨T1, X1, e1, st1⟩ := getF X0 hx hZ hown (host := "") (Or.inl (own_w hw 18 rfl)) Via.refl e0 (F_WEAK_PERMISSION_strong.ext O0.2) (g := (mkF m 1 #[.val (.ref a_WEAK_PERMISSION)] [(.ref a_WEAK_PERMISSION)])) rfl rfl (hb hby d_prog_122_method_6_code_1)
  have k2 : ∀ t, own_At p e below m T1 4 #[.val (.ref a_WEAK_PERMISSION)] [(.int (0 : Int32))] t → own_En p e below m s₁ #[(.ref a_WEAK_PERMISSION)] 1 t := by
    intro t k
    refine k0 t ?_
    refine XS.aloadN X0.here hx rfl (hb hby d_prog_122_method_6_code_0) rfl rfl ?_
    show own_At p e below m s₁ 1 #[.val (.ref a_WEAK_PERMISSION)] [(.ref a_WEAK_PERMISSION)] t
    refine st1 _ ?_
    show own_At p e below m T1 4 #[.val (.ref a_WEAK_PERMISSION)] [(.int (0 : Int32))] t
    exact k
  obtain ⟨fs, hr, hrun, hended, hW, hsame⟩ := X1.leave (v := some (.int (0 : Int32))) (fun h => by rw [Bd.returns] at h; cases h)
  refine hNG ⟨_, _, k2 _ ?_, hrun, hended, _, _, rfl, ?_, ⟨_, rfl⟩, hW, hsame.mono (by decide) (by decide)⟩
  · exact retN X1 hx (t := .boolean) Bd.returns (by simp) (hb hby d_prog_122_method_6_code_4) hr
  · show Q_f9 Z a_STRONG_DENIAL a_WEAK_DENIAL a_STRONG_PERMISSION a_WEAK_PERMISSION h0 n0 _ T1.heap _
    rw [e1]
    exact ⟨rfl, N0, rfl⟩
theorem ef_f10 (m : MethodId) (x0 : Int32) (x1 : Int32)  : entryFrame m #[(.int x0), (.int x1)] 3 = mkF m 0 #[.val (.int x0), .val (.int x1), .unset] [] := by first | (simp [entryFrame, mkF, argsToLocals, Value.category]; done) | rfl
theorem d_prog_122_method_4_code_8 : decode prog_122_method_4_code 8 = .ok (.getstatic 3, 3) := by decide +kernel
theorem d_prog_122_method_4_code_11 : decode prog_122_method_4_code 11 = .ok (.goto 6, 3) := by decide +kernel
def Q_f10 (Z : State) (a_STRONG_DENIAL : Addr) (a_WEAK_DENIAL : Addr) (a_STRONG_PERMISSION : Addr) (a_WEAK_PERMISSION : Addr) (h0 : Heap) (n0 : Nat) (v : Option Value) (h : Heap) (L : List Loc) : Prop := v = some (.ref a_STRONG_PERMISSION) ∧ Fr n0 L ∧ h = h0
set_option maxRecDepth 65536 in
set_option maxHeartbeats 40000000 in
theorem rm_f10 (l : Launch) (Z : State) (a0 : Array Value) (hw : ∀ d ∈ tables_1, d.before a0 Z = true) (ws : List Jvm.Cond) (a_STRONG_DENIAL : Addr) (a_WEAK_DENIAL : Addr) (a_STRONG_PERMISSION : Addr) (a_WEAK_PERMISSION : Addr) (h0 : Heap) (n0 : Nat) (O0 : Old Z n0 h0) (hE : EV Z a_STRONG_DENIAL a_WEAK_DENIAL a_STRONG_PERMISSION a_WEAK_PERMISSION) :
    MetFree l own_m0 (head1 (Jvm.Cond.code own_m0 prog_122_method_4_code 3 (some (.object "com/example/gate3/gate3/model/Right")) :: ws) ({ frames := 0, cells := 0, slots := 0, locals := 0 } : Room)) (fun a U => a = #[(.int (1 : Int32)), (.int (1 : Int32))] ∧ Z.Warmed39 U.vm ∧ U.heap = h0) (fun _ _ _ _ _ => True) (fun _ U o U' => ∃ v L, o = .returned v ∧ Q_f10 Z a_STRONG_DENIAL a_WEAK_DENIAL a_STRONG_PERMISSION a_WEAK_PERMISSION h0 n0 v U'.heap L ∧ FrameEnd U o U' L ({ frames := 0, cells := 0, slots := 0, locals := 0 } : Room).cells ({ frames := 0, cells := 0, slots := 0, locals := 0 } : Room).slots) := by
  refine MetFree.of_bodySF (plainFor_of_name pn_com_example_gate3_gate3_model_Right) hisR ?_
  intro p e s m args below meth c s₁ Bd hml0 hP hK
  obtain ⟨rfl, hZ, hh⟩ := hP
  have hx := Bd.exec
  have hby := Bd.bytes
  have hml : c.maxLocals = 3 := hml0
  have hown : s.vm.findClass "com/example/gate3/gate3/model/Right" = some m.cls := findClass_of_methodNamed Bd.named
  have hnm := (name_of_methodNamed Bd.named Bd.method).1
  have X0 : Stand p l e ({ frames := 0, cells := 0, slots := 0, locals := 0 } : Room) s m #[(.int (1 : Int32)), (.int (1 : Int32))] below meth c s₁ [] 0 0 := Stand.of_body Bd
  have e0 : s₁.heap = h0 := by rw [← hh, Bd.state]; rfl
  have N0 := Fr.nil n0
  refine Classical.byContradiction fun hNG => ?_
  have K0 := Keep.refl h0 []
  have k0 : ∀ t, own_At p e below m s₁ 0 #[.val (.int (1 : Int32)), .val (.int (1 : Int32)), .unset] [] t → own_En p e below m s₁ #[(.int (1 : Int32)), (.int (1 : Int32))] 3 t := fun t k => castTop (ef_f10 m ((1 : Int32)) ((1 : Int32)) ) k
  obtain ⟨S_STRONG_DENIAL, E_STRONG_DENIAL, F_STRONG_DENIAL_permission, F_STRONG_DENIAL_strong, S_WEAK_DENIAL, E_WEAK_DENIAL, F_WEAK_DENIAL_permission, F_WEAK_DENIAL_strong, S_STRONG_PERMISSION, E_STRONG_PERMISSION, F_STRONG_PERMISSION_permission, F_STRONG_PERMISSION_strong, S_WEAK_PERMISSION, E_WEAK_PERMISSION, F_WEAK_PERMISSION_permission, F_WEAK_PERMISSION_strong⟩ := (id hE : EV Z a_STRONG_DENIAL a_WEAK_DENIAL a_STRONG_PERMISSION a_WEAK_PERMISSION)
  obtain ⟨T1, X1, e1, st1⟩ := getS2 X0 hx hZ hown (host := "") (Or.inl (own_w hw 22 rfl)) Via.refl e0 (S_STRONG_PERMISSION.ext O0.2) (g := (mkF m 8 #[.val (.int (1 : Int32)), .val (.int (1 : Int32)), .unset] [])) rfl (hb hby d_prog_122_method_4_code_8)
  have k2 : ∀ t, own_At p e below m T1 36 #[.val (.int (1 : Int32)), .val (.int (1 : Int32)), .val (.ref a_STRONG_PERMISSION)] [(.ref a_STRONG_PERMISSION)] t → own_En p e below m s₁ #[(.int (1 : Int32)), (.int (1 : Int32))] 3 t := by
    intro t k
    refine k0 t ?_
    refine XS.iloadN X0.here hx rfl (hb hby d_prog_122_method_4_code_0) rfl ?_
    show own_At p e below m s₁ 1 #[.val (.int (1 : Int32)), .val (.int (1 : Int32)), .unset] [(.int (1 : Int32))] t
    refine XS.ifNo X0.here hx rfl (hb hby d_prog_122_method_4_code_1) rfl ((if0 _ _).trans (feq (by decide : ¬ ((1 : Int32) = (0 : Int32)))).1) ?_
    show own_At p e below m s₁ 4 #[.val (.int (1 : Int32)), .val (.int (1 : Int32)), .unset] [] t
    refine XS.iloadN X0.here hx rfl (hb hby d_prog_122_method_4_code_4) rfl ?_
    show own_At p e below m s₁ 5 #[.val (.int (1 : Int32)), .val (.int (1 : Int32)), .unset] [(.int (1 : Int32))] t
    refine XS.ifNo X0.here hx rfl (hb hby d_prog_122_method_4_code_5) rfl ((if0 _ _).trans (feq (by decide : ¬ ((1 : Int32) = (0 : Int32)))).1) ?_
    show own_At p e below m s₁ 8 #[.val (.int (1 : Int32)), .val (.int (1 : Int32)), .unset] [] t
    refine st1 _ ?_
    show own_At p e below m T1 11 #[.val (.int (1 : Int32)), .val (.int (1 : Int32)), .unset] [(.ref a_STRONG_PERMISSION)] t
    refine XS.goto X1.here hx rfl (pc0 := 11) (pc' := 17) rfl (hb hby d_prog_122_method_4_code_11) (by decide) (by decide) ?_
    show own_At p e below m T1 17 #[.val (.int (1 : Int32)), .val (.int (1 : Int32)), .unset] [(.ref a_STRONG_PERMISSION)] t
    refine XS.astoreN X1.here hx rfl (hb hby d_prog_122_method_4_code_17) rfl rfl (l' := #[.val (.int (1 : Int32)), .val (.int (1 : Int32)), .val (.ref a_STRONG_PERMISSION)]) rfl ?_
    show own_At p e below m T1 18 #[.val (.int (1 : Int32)), .val (.int (1 : Int32)), .val (.ref a_STRONG_PERMISSION)] [] t
    refine XS.goto X1.here hx rfl (pc0 := 18) (pc' := 35) rfl (hb hby d_prog_122_method_4_code_18) (by decide) (by decide) ?_
    show own_At p e below m T1 35 #[.val (.int (1 : Int32)), .val (.int (1 : Int32)), .val (.ref a_STRONG_PERMISSION)] [] t
    refine XS.aloadN X1.here hx rfl (hb hby d_prog_122_method_4_code_35) rfl rfl ?_
    show own_At p e below m T1 36 #[.val (.int (1 : Int32)), .val (.int (1 : Int32)), .val (.ref a_STRONG_PERMISSION)] [(.ref a_STRONG_PERMISSION)] t
    exact k
  obtain ⟨fs, hr, hrun, hended, hW, hsame⟩ := X1.leave (v := some (.ref a_STRONG_PERMISSION)) (fun h => by rw [Bd.returns] at h; cases h)
  refine hNG ⟨_, _, k2 _ ?_, hrun, hended, _, _, rfl, ?_, ⟨_, rfl⟩, hW, hsame.mono (by decide) (by decide)⟩
  · exact retOut X1 hx (t := (.object "com/example/gate3/gate3/model/Right")) Bd.returns rfl (Or.inr (Or.inr (Or.inr (Or.inr ⟨rfl, rfl, rfl⟩)))) (hb hby d_prog_122_method_4_code_36) hr
  · show Q_f10 Z a_STRONG_DENIAL a_WEAK_DENIAL a_STRONG_PERMISSION a_WEAK_PERMISSION h0 n0 _ T1.heap _
    rw [e1]
    exact ⟨rfl, N0, rfl⟩
theorem ef_f11 (m : MethodId) (x0 : Addr)  : entryFrame m #[(.ref x0)] 1 = mkF m 0 #[.val (.ref x0)] [] := by first | (simp [entryFrame, mkF, argsToLocals, Value.category]; done) | rfl
def Q_f11 (Z : State) (a_STRONG_DENIAL : Addr) (a_WEAK_DENIAL : Addr) (a_STRONG_PERMISSION : Addr) (a_WEAK_PERMISSION : Addr) (h0 : Heap) (n0 : Nat) (v : Option Value) (h : Heap) (L : List Loc) : Prop := v = some (.int (1 : Int32)) ∧ Fr n0 L ∧ h = h0
set_option maxRecDepth 65536 in
set_option maxHeartbeats 40000000 in
theorem rm_f11 (l : Launch) (Z : State) (a0 : Array Value) (hw : ∀ d ∈ tables_1, d.before a0 Z = true) (ws : List Jvm.Cond) (a_STRONG_DENIAL : Addr) (a_WEAK_DENIAL : Addr) (a_STRONG_PERMISSION : Addr) (a_WEAK_PERMISSION : Addr) (h0 : Heap) (n0 : Nat) (O0 : Old Z n0 h0) (hE : EV Z a_STRONG_DENIAL a_WEAK_DENIAL a_STRONG_PERMISSION a_WEAK_PERMISSION) :
    MetFree l own_m1 (head1 (Jvm.Cond.code own_m1 prog_122_method_5_code 1 (some .boolean) :: ws) ({ frames := 0, cells := 0, slots := 0, locals := 0 } : Room)) (fun a U => a = #[(.ref a_STRONG_PERMISSION)] ∧ Z.Warmed39 U.vm ∧ U.heap = h0) (fun _ _ _ _ _ => True) (fun _ U o U' => ∃ v L, o = .returned v ∧ Q_f11 Z a_STRONG_DENIAL a_WEAK_DENIAL a_STRONG_PERMISSION a_WEAK_PERMISSION h0 n0 v U'.heap L ∧ FrameEnd U o U' L ({ frames := 0, cells := 0, slots := 0, locals := 0 } : Room).cells ({ frames := 0, cells := 0, slots := 0, locals := 0 } : Room).slots) := by
  refine MetFree.of_bodySF (plainFor_of_name pn_com_example_gate3_gate3_model_Right) hisR ?_
  intro p e s m args below meth c s₁ Bd hml0 hP hK
  obtain ⟨rfl, hZ, hh⟩ := hP
  have hx := Bd.exec
  have hby := Bd.bytes
  have hml : c.maxLocals = 1 := hml0
  have hown : s.vm.findClass "com/example/gate3/gate3/model/Right" = some m.cls := findClass_of_methodNamed Bd.named
  have hnm := (name_of_methodNamed Bd.named Bd.method).1
  have X0 : Stand p l e ({ frames := 0, cells := 0, slots := 0, locals := 0 } : Room) s m #[(.ref a_STRONG_PERMISSION)] below meth c s₁ [] 0 0 := Stand.of_body Bd
  have e0 : s₁.heap = h0 := by rw [← hh, Bd.state]; rfl
  have N0 := Fr.nil n0
  refine Classical.byContradiction fun hNG => ?_
  have K0 := Keep.refl h0 []
  have k0 : ∀ t, own_At p e below m s₁ 0 #[.val (.ref a_STRONG_PERMISSION)] [] t → own_En p e below m s₁ #[(.ref a_STRONG_PERMISSION)] 1 t := fun t k => castTop (ef_f11 m a_STRONG_PERMISSION ) k
  obtain ⟨S_STRONG_DENIAL, E_STRONG_DENIAL, F_STRONG_DENIAL_permission, F_STRONG_DENIAL_strong, S_WEAK_DENIAL, E_WEAK_DENIAL, F_WEAK_DENIAL_permission, F_WEAK_DENIAL_strong, S_STRONG_PERMISSION, E_STRONG_PERMISSION, F_STRONG_PERMISSION_permission, F_STRONG_PERMISSION_strong, S_WEAK_PERMISSION, E_WEAK_PERMISSION, F_WEAK_PERMISSION_permission, F_WEAK_PERMISSION_strong⟩ := (id hE : EV Z a_STRONG_DENIAL a_WEAK_DENIAL a_STRONG_PERMISSION a_WEAK_PERMISSION)
  obtain ⟨T1, X1, e1, st1⟩ := getF X0 hx hZ hown (host := "") (Or.inl (own_w hw 11 rfl)) Via.refl e0 (F_STRONG_PERMISSION_permission.ext O0.2) (g := (mkF m 1 #[.val (.ref a_STRONG_PERMISSION)] [(.ref a_STRONG_PERMISSION)])) rfl rfl (hb hby d_prog_122_method_5_code_1)
  have k2 : ∀ t, own_At p e below m T1 4 #[.val (.ref a_STRONG_PERMISSION)] [(.int (1 : Int32))] t → own_En p e below m s₁ #[(.ref a_STRONG_PERMISSION)] 1 t := by
    intro t k
    refine k0 t ?_
    refine XS.aloadN X0.here hx rfl (hb hby d_prog_122_method_5_code_0) rfl rfl ?_
    show own_At p e below m s₁ 1 #[.val (.ref a_STRONG_PERMISSION)] [(.ref a_STRONG_PERMISSION)] t
    refine st1 _ ?_
    show own_At p e below m T1 4 #[.val (.ref a_STRONG_PERMISSION)] [(.int (1 : Int32))] t
    exact k
  obtain ⟨fs, hr, hrun, hended, hW, hsame⟩ := X1.leave (v := some (.int (1 : Int32))) (fun h => by rw [Bd.returns] at h; cases h)
  refine hNG ⟨_, _, k2 _ ?_, hrun, hended, _, _, rfl, ?_, ⟨_, rfl⟩, hW, hsame.mono (by decide) (by decide)⟩
  · exact retN X1 hx (t := .boolean) Bd.returns (by simp) (hb hby d_prog_122_method_5_code_4) hr
  · show Q_f11 Z a_STRONG_DENIAL a_WEAK_DENIAL a_STRONG_PERMISSION a_WEAK_PERMISSION h0 n0 _ T1.heap _
    rw [e1]
    exact ⟨rfl, N0, rfl⟩
theorem ef_f12 (m : MethodId) (x0 : Addr)  : entryFrame m #[(.ref x0)] 1 = mkF m 0 #[.val (.ref x0)] [] := by first | (simp [entryFrame, mkF, argsToLocals, Value.category]; done) | rfl
def Q_f12 (Z : State) (a_STRONG_DENIAL : Addr) (a_WEAK_DENIAL : Addr) (a_STRONG_PERMISSION : Addr) (a_WEAK_PERMISSION : Addr) (h0 : Heap) (n0 : Nat) (v : Option Value) (h : Heap) (L : List Loc) : Prop := v = some (.int (1 : Int32)) ∧ Fr n0 L ∧ h = h0
set_option maxRecDepth 65536 in
set_option maxHeartbeats 40000000 in
theorem rm_f12 (l : Launch) (Z : State) (a0 : Array Value) (hw : ∀ d ∈ tables_1, d.before a0 Z = true) (ws : List Jvm.Cond) (a_STRONG_DENIAL : Addr) (a_WEAK_DENIAL : Addr) (a_STRONG_PERMISSION : Addr) (a_WEAK_PERMISSION : Addr) (h0 : Heap) (n0 : Nat) (O0 : Old Z n0 h0) (hE : EV Z a_STRONG_DENIAL a_WEAK_DENIAL a_STRONG_PERMISSION a_WEAK_PERMISSION) :
    MetFree l own_m2 (head1 (Jvm.Cond.code own_m2 prog_122_method_6_code 1 (some .boolean) :: ws) ({ frames := 0, cells := 0, slots := 0, locals := 0 } : Room)) (fun a U => a = #[(.ref a_STRONG_PERMISSION)] ∧ Z.Warmed39 U.vm ∧ U.heap = h0) (fun _ _ _ _ _ => True) (fun _ U o U' => ∃ v L, o = .returned v ∧ Q_f12 Z a_STRONG_DENIAL a_WEAK_DENIAL a_STRONG_PERMISSION a_WEAK_PERMISSION h0 n0 v U'.heap L ∧ FrameEnd U o U' L ({ frames := 0, cells := 0, slots := 0, locals := 0 } : Room).cells ({ frames := 0, cells := 0, slots := 0, locals := 0 } : Room).slots) := by
  refine MetFree.of_bodySF (plainFor_of_name pn_com_example_gate3_gate3_model_Right) hisR ?_
  intro p e s m args below meth c s₁ Bd hml0 hP hK
  obtain ⟨rfl, hZ, hh⟩ := hP
  have hx := Bd.exec
  have hby := Bd.bytes
  have hml : c.maxLocals = 1 := hml0
  have hown : s.vm.findClass "com/example/gate3/gate3/model/Right" = some m.cls := findClass_of_methodNamed Bd.named
  have hnm := (name_of_methodNamed Bd.named Bd.method).1
  have X0 : Stand p l e ({ frames := 0, cells := 0, slots := 0, locals := 0 } : Room) s m #[(.ref a_STRONG_PERMISSION)] below meth c s₁ [] 0 0 := Stand.of_body Bd
  have e0 : s₁.heap = h0 := by rw [← hh, Bd.state]; rfl
  have N0 := Fr.nil n0
  refine Classical.byContradiction fun hNG => ?_
  have K0 := Keep.refl h0 []
  have k0 : ∀ t, own_At p e below m s₁ 0 #[.val (.ref a_STRONG_PERMISSION)] [] t → own_En p e below m s₁ #[(.ref a_STRONG_PERMISSION)] 1 t := fun t k => castTop (ef_f12 m a_STRONG_PERMISSION ) k
  obtain ⟨S_STRONG_DENIAL, E_STRONG_DENIAL, F_STRONG_DENIAL_permission, F_STRONG_DENIAL_strong, S_WEAK_DENIAL, E_WEAK_DENIAL, F_WEAK_DENIAL_permission, F_WEAK_DENIAL_strong, S_STRONG_PERMISSION, E_STRONG_PERMISSION, F_STRONG_PERMISSION_permission, F_STRONG_PERMISSION_strong, S_WEAK_PERMISSION, E_WEAK_PERMISSION, F_WEAK_PERMISSION_permission, F_WEAK_PERMISSION_strong⟩ := (id hE : EV Z a_STRONG_DENIAL a_WEAK_DENIAL a_STRONG_PERMISSION a_WEAK_PERMISSION)
  obtain ⟨T1, X1, e1, st1⟩ := getF X0 hx hZ hown (host := "") (Or.inl (own_w hw 18 rfl)) Via.refl e0 (F_STRONG_PERMISSION_strong.ext O0.2) (g := (mkF m 1 #[.val (.ref a_STRONG_PERMISSION)] [(.ref a_STRONG_PERMISSION)])) rfl rfl (hb hby d_prog_122_method_6_code_1)
  have k2 : ∀ t, own_At p e below m T1 4 #[.val (.ref a_STRONG_PERMISSION)] [(.int (1 : Int32))] t → own_En p e below m s₁ #[(.ref a_STRONG_PERMISSION)] 1 t := by
    intro t k
    refine k0 t ?_
    refine XS.aloadN X0.here hx rfl (hb hby d_prog_122_method_6_code_0) rfl rfl ?_
    show own_At p e below m s₁ 1 #[.val (.ref a_STRONG_PERMISSION)] [(.ref a_STRONG_PERMISSION)] t
    refine st1 _ ?_
    show own_At p e below m T1 4 #[.val (.ref a_STRONG_PERMISSION)] [(.int (1 : Int32))] t
    exact k
  obtain ⟨fs, hr, hrun, hended, hW, hsame⟩ := X1.leave (v := some (.int (1 : Int32))) (fun h => by rw [Bd.returns] at h; cases h)
  refine hNG ⟨_, _, k2 _ ?_, hrun, hended, _, _, rfl, ?_, ⟨_, rfl⟩, hW, hsame.mono (by decide) (by decide)⟩
  · exact retN X1 hx (t := .boolean) Bd.returns (by simp) (hb hby d_prog_122_method_6_code_4) hr
  · show Q_f12 Z a_STRONG_DENIAL a_WEAK_DENIAL a_STRONG_PERMISSION a_WEAK_PERMISSION h0 n0 _ T1.heap _
    rw [e1]
    exact ⟨rfl, N0, rfl⟩
theorem pn_com_example_gate3_gate3_model_RightOfPinLaw : plainName "com/example/gate3/gate3/model/RightOfPinLaw" = true := by first | (simp [plainName, overriddenIn]; done) | decide +kernel
def Q_law (Z : State) (p0 : Int32) (p1 : Int32) (a_STRONG_DENIAL : Addr) (a_WEAK_DENIAL : Addr) (a_STRONG_PERMISSION : Addr) (a_WEAK_PERMISSION : Addr) (h0 : Heap) (n0 : Nat) (v : Option Value) (h : Heap) (L : List Loc) : Prop := v = some (.int (1 : Int32)) ∧ Fr n0 L
set_option maxRecDepth 65536 in
set_option maxHeartbeats 40000000 in
theorem rm_law (l : Launch) (Z : State) (a0 : Array Value) (hw : ∀ d ∈ tables_1, d.before a0 Z = true) (ws : List Jvm.Cond) (p0 : Int32) (p1 : Int32) (a_STRONG_DENIAL : Addr) (a_WEAK_DENIAL : Addr) (a_STRONG_PERMISSION : Addr) (a_WEAK_PERMISSION : Addr) (h0 : Heap) (n0 : Nat) (O0 : Old Z n0 h0) (hE : EV Z a_STRONG_DENIAL a_WEAK_DENIAL a_STRONG_PERMISSION a_WEAK_PERMISSION) :
    MetFree l x (head1 (Jvm.Cond.code x code maxLocals ret :: ws) room_1) (fun a U => a = #[(.int p0), (.int p1)] ∧ Z.Warmed39 U.vm ∧ U.heap = h0) (fun _ _ _ _ _ => True) (fun _ U o U' => ∃ v L, o = .returned v ∧ Q_law Z p0 p1 a_STRONG_DENIAL a_WEAK_DENIAL a_STRONG_PERMISSION a_WEAK_PERMISSION h0 n0 v U'.heap L ∧ FrameEnd U o U' L 0 0) := by
  refine MetFree.of_bodySF (plainFor_of_name pn_com_example_gate3_gate3_model_RightOfPinLaw) hisR ?_
  intro p e s m args below meth c s₁ Bd hml0 hP hK
  obtain ⟨rfl, hZ, hh⟩ := hP
  have hx := Bd.exec
  have hby := Bd.bytes
  have hml : c.maxLocals = 5 := hml0
  have hown : s.vm.findClass "com/example/gate3/gate3/model/RightOfPinLaw" = some m.cls := findClass_of_methodNamed Bd.named
  have hnm := (name_of_methodNamed Bd.named Bd.method).1
  have X0 : Stand p l e room_1 s m #[(.int p0), (.int p1)] below meth c s₁ [] 0 0 := Stand.of_body Bd
  have e0 : s₁.heap = h0 := by rw [← hh, Bd.state]; rfl
  have N0 := Fr.nil n0
  refine Classical.byContradiction fun hNG => ?_
  have K0 := Keep.refl h0 []
  have k0 : ∀ t, own_At p e below m s₁ 0 #[.val (.int p0), .val (.int p1), .unset, .unset, .unset] [] t → own_En p e below m s₁ #[(.int p0), (.int p1)] maxLocals t := fun t k => castTop (ef_law m p0 p1 ) k
  obtain ⟨S_STRONG_DENIAL, E_STRONG_DENIAL, F_STRONG_DENIAL_permission, F_STRONG_DENIAL_strong, S_WEAK_DENIAL, E_WEAK_DENIAL, F_WEAK_DENIAL_permission, F_WEAK_DENIAL_strong, S_STRONG_PERMISSION, E_STRONG_PERMISSION, F_STRONG_PERMISSION_permission, F_STRONG_PERMISSION_strong, S_WEAK_PERMISSION, E_WEAK_PERMISSION, F_WEAK_PERMISSION_permission, F_WEAK_PERMISSION_strong⟩ := (id hE : EV Z a_STRONG_DENIAL a_WEAK_DENIAL a_STRONG_PERMISSION a_WEAK_PERMISSION)
  have k1 : ∀ t, own_At p e below m s₁ 3 #[.val (.int p0), .val (.int p1), .unset, .unset, .unset] [(.int (p0 &&& (1 : Int32)))] t → own_En p e below m s₁ #[(.int p0), (.int p1)] maxLocals t := by
    intro t k
    refine k0 t ?_
    refine XS.iloadN X0.here hx rfl (hb hby at_0) rfl ?_
    show own_At p e below m s₁ 1 #[.val (.int p0), .val (.int p1), .unset, .unset, .unset] [(.int p0)] t
    refine XS.iconst X0.here hx rfl (hb hby at_1) ?_
    show own_At p e below m s₁ 2 #[.val (.int p0), .val (.int p1), .unset, .unset, .unset] [(.int (1 : Int32)), (.int p0)] t
    refine XS.iand X0.here hx rfl (hb hby at_2) rfl ?_
    show own_At p e below m s₁ 3 #[.val (.int p0), .val (.int p1), .unset, .unset, .unset] [(.int (p0 &&& (1 : Int32)))] t
    exact k
  by_cases hc2 : (p0 &&& (1 : Int32)) = (0 : Int32)
  · have k3 : ∀ t, own_At p e below m s₁ 15 #[.val (.int p0), .val (.int p1), .val (.int (0 : Int32)), .unset, .unset] [(.int (p1 &&& (1 : Int32)))] t → own_En p e below m s₁ #[(.int p0), (.int p1)] maxLocals t := by
      intro t k
      refine k1 t ?_
      refine XS.ifYes X0.here hx rfl (pc0 := 3) (pc' := 10) rfl (hb hby at_3) rfl ((if0 _ _).trans (teq hc2).1) (by decide) (by decide) ?_
      show own_At p e below m s₁ 10 #[.val (.int p0), .val (.int p1), .unset, .unset, .unset] [] t
      refine XS.iconst X0.here hx rfl (hb hby at_10) ?_
      show own_At p e below m s₁ 11 #[.val (.int p0), .val (.int p1), .unset, .unset, .unset] [(.int (0 : Int32))] t
      refine XS.istoreN X0.here hx rfl (hb hby at_11) rfl (l' := #[.val (.int p0), .val (.int p1), .val (.int (0 : Int32)), .unset, .unset]) rfl ?_
      show own_At p e below m s₁ 12 #[.val (.int p0), .val (.int p1), .val (.int (0 : Int32)), .unset, .unset] [] t
      refine XS.iloadN X0.here hx rfl (hb hby at_12) rfl ?_
      show own_At p e below m s₁ 13 #[.val (.int p0), .val (.int p1), .val (.int (0 : Int32)), .unset, .unset] [(.int p1)] t
      refine XS.iconst X0.here hx rfl (hb hby at_13) ?_
      show own_At p e below m s₁ 14 #[.val (.int p0), .val (.int p1), .val (.int (0 : Int32)), .unset, .unset] [(.int (1 : Int32)), (.int p1)] t
      refine XS.iand X0.here hx rfl (hb hby at_14) rfl ?_
      show own_At p e below m s₁ 15 #[.val (.int p0), .val (.int p1), .val (.int (0 : Int32)), .unset, .unset] [(.int (p1 &&& (1 : Int32)))] t
      exact k
    by_cases hc4 : (p1 &&& (1 : Int32)) = (0 : Int32)
    · obtain ⟨_, _, ⟨T5, L5, k5, n5⟩, -, X5, ⟨Lc5, hQ5, l5, y5, z5⟩, st5⟩ := Jvm.LawKit.callS X0 hx (y := own_m0) hown (mvT hZ (own_w hw 0 rfl)) (mvT hZ (own_w hw 1 rfl)) (mvT hZ (own_w hw 2 rfl)) (mvT hZ (own_w hw 3 rfl)) (by decide) (backOf (W := 0) (rm_f1 l Z a0 hw []  _ _ _ _ h0 n0 O0 hE) hZ (own_w hw 3 rfl) (own_w hw 2 rfl) (by decide) (by decide)) (g := (mkF m 26 #[.val (.int p0), .val (.int p1), .val (.int (0 : Int32)), .val (.int (0 : Int32)), .unset] [(.int (0 : Int32)), (.int (0 : Int32))])) rfl (by rw [hml]; rfl) (argsL := [(.int (0 : Int32)), (.int (0 : Int32))]) (rest := []) (lenOf pd__ZZ_Lcom_example_gate3_gate3_model_Right_ rfl) rfl (by show 2 * 0 + _ ≤ _; exact Nat.le_of_eq rfl) (hb hby at_26) (fun _ _ => ⟨rfl, e0, (by decide : 0 + 0 ≤ _), (by decide : 0 + 0 ≤ _)⟩)
      dsimp only [Pt.U, Pt.locs, Pt.cells, Pt.slots] at X5 l5 y5 z5 st5 hQ5
      subst l5 y5 z5
      obtain ⟨rfl, N5q, hp5⟩ := hQ5
      have N5 := Fr.app N0 N5q
      obtain ⟨cq6, kq6, q6a, q6b, q6c⟩ := isOf hZ hp5 (E_WEAK_DENIAL.ext O0.2)
      obtain ⟨_, _, ⟨T6, L6, k6, n6⟩, -, X6, ⟨Lc6, hQ6, l6, y6, z6⟩, st6⟩ := X5.virtualBack hx (y := own_m1) (z := own_m1) hown (mvT hZ (own_w hw 6 rfl)) (mvT hZ (own_w hw 7 rfl)) (notFace_of_selects (args := #[]) (mvT hZ (own_w hw 9 rfl))) (mvT hZ (own_w hw 9 rfl)) (mvT hZ (own_w hw 8 rfl)) (by decide) (backOf (W := 0) (rm_f2 l Z a0 hw []  _ _ _ _ h0 n0 O0 hE) hZ (own_w hw 10 rfl) (own_w hw 2 rfl) (by decide) (by decide)) q6a q6c (g := (mkF m 40 #[.val (.int p0), .val (.int p1), .val (.int (0 : Int32)), .val (.int (0 : Int32)), .val (.ref a_WEAK_DENIAL)] [(.ref a_WEAK_DENIAL)])) rfl (by rw [hml]; rfl) (Steps.refl _) (argsL := []) (rest := []) (lenOf pd___Z rfl) rfl (by show 2 * 0 + _ ≤ _; exact Nat.le_of_eq rfl) (hb hby at_40) (fun _ _ => ⟨rfl, hp5, (by decide : 0 + 0 ≤ _), (by decide : 0 + 0 ≤ _)⟩)
      dsimp only [Pt.U, Pt.locs, Pt.cells, Pt.slots] at X6 l6 y6 z6 st6 hQ6
      subst l6 y6 z6
      obtain ⟨rfl, N6q, hp6⟩ := hQ6
      have N6 := Fr.app N5 N6q
      obtain ⟨cq7, kq7, q7a, q7b, q7c⟩ := isOf hZ hp6 (E_WEAK_DENIAL.ext O0.2)
      obtain ⟨_, _, ⟨T7, L7, k7, n7⟩, -, X7, ⟨Lc7, hQ7, l7, y7, z7⟩, st7⟩ := X6.virtualBack hx (y := own_m2) (z := own_m2) hown (mvT hZ (own_w hw 13 rfl)) (mvT hZ (own_w hw 14 rfl)) (notFace_of_selects (args := #[]) (mvT hZ (own_w hw 16 rfl))) (mvT hZ (own_w hw 16 rfl)) (mvT hZ (own_w hw 15 rfl)) (by decide) (backOf (W := 0) (rm_f3 l Z a0 hw []  _ _ _ _ h0 n0 O0 hE) hZ (own_w hw 17 rfl) (own_w hw 2 rfl) (by decide) (by decide)) q7a q7c (g := (mkF m 49 #[.val (.int p0), .val (.int p1), .val (.int (0 : Int32)), .val (.int (0 : Int32)), .val (.ref a_WEAK_DENIAL)] [(.ref a_WEAK_DENIAL)])) rfl (by rw [hml]; rfl) (Steps.refl _) (argsL := []) (rest := []) (lenOf pd___Z rfl) rfl (by show 2 * 0 + _ ≤ _; exact Nat.le_of_eq rfl) (hb hby at_49) (fun _ _ => ⟨rfl, hp6, (by decide : 0 + 0 ≤ _), (by decide : 0 + 0 ≤ _)⟩)
      dsimp only [Pt.U, Pt.locs, Pt.cells, Pt.slots] at X7 l7 y7 z7 st7 hQ7
      subst l7 y7 z7
      obtain ⟨rfl, N7q, hp7⟩ := hQ7
      have N7 := Fr.app N6 N7q
      have k8 : ∀ t, own_At p e below m T7 61 #[.val (.int p0), .val (.int p1), .val (.int (0 : Int32)), .val (.int (0 : Int32)), .val (.ref a_WEAK_DENIAL)] [(.int (1 : Int32))] t → own_En p e below m s₁ #[(.int p0), (.int p1)] maxLocals t := by
        intro t k
        refine k3 t ?_
        refine XS.ifYes X0.here hx rfl (pc0 := 15) (pc' := 22) rfl (hb hby at_15) rfl ((if0 _ _).trans (teq hc4).1) (by decide) (by decide) ?_
        show own_At p e below m s₁ 22 #[.val (.int p0), .val (.int p1), .val (.int (0 : Int32)), .unset, .unset] [] t
        refine XS.iconst X0.here hx rfl (hb hby at_22) ?_
        show own_At p e below m s₁ 23 #[.val (.int p0), .val (.int p1), .val (.int (0 : Int32)), .unset, .unset] [(.int (0 : Int32))] t
        refine XS.istoreN X0.here hx rfl (hb hby at_23) rfl (l' := #[.val (.int p0), .val (.int p1), .val (.int (0 : Int32)), .val (.int (0 : Int32)), .unset]) rfl ?_
        show own_At p e below m s₁ 24 #[.val (.int p0), .val (.int p1), .val (.int (0 : Int32)), .val (.int (0 : Int32)), .unset] [] t
        refine XS.iloadN X0.here hx rfl (hb hby at_24) rfl ?_
        show own_At p e below m s₁ 25 #[.val (.int p0), .val (.int p1), .val (.int (0 : Int32)), .val (.int (0 : Int32)), .unset] [(.int (0 : Int32))] t
        refine XS.iloadN X0.here hx rfl (hb hby at_25) rfl ?_
        show own_At p e below m s₁ 26 #[.val (.int p0), .val (.int p1), .val (.int (0 : Int32)), .val (.int (0 : Int32)), .unset] [(.int (0 : Int32)), (.int (0 : Int32))] t
        refine st5 _ ?_
        show own_At p e below m T5 29 #[.val (.int p0), .val (.int p1), .val (.int (0 : Int32)), .val (.int (0 : Int32)), .unset] [(.ref a_WEAK_DENIAL)] t
        refine XS.astore X5.here hx rfl (hb hby at_29) rfl rfl (l' := #[.val (.int p0), .val (.int p1), .val (.int (0 : Int32)), .val (.int (0 : Int32)), .val (.ref a_WEAK_DENIAL)]) rfl ?_
        show own_At p e below m T5 31 #[.val (.int p0), .val (.int p1), .val (.int (0 : Int32)), .val (.int (0 : Int32)), .val (.ref a_WEAK_DENIAL)] [] t
        refine XS.aload X5.here hx rfl (hb hby at_31) rfl rfl ?_
        show own_At p e below m T5 33 #[.val (.int p0), .val (.int p1), .val (.int (0 : Int32)), .val (.int (0 : Int32)), .val (.ref a_WEAK_DENIAL)] [(.ref a_WEAK_DENIAL)] t
        refine XS.ifnonnullYes X5.here hx rfl (pc0 := 33) (pc' := 38) rfl (hb hby at_33) rfl (by decide) (by decide) ?_
        show own_At p e below m T5 38 #[.val (.int p0), .val (.int p1), .val (.int (0 : Int32)), .val (.int (0 : Int32)), .val (.ref a_WEAK_DENIAL)] [] t
        refine XS.aload X5.here hx rfl (hb hby at_38) rfl rfl ?_
        show own_At p e below m T5 40 #[.val (.int p0), .val (.int p1), .val (.int (0 : Int32)), .val (.int (0 : Int32)), .val (.ref a_WEAK_DENIAL)] [(.ref a_WEAK_DENIAL)] t
        refine st6.trans ?_
        show own_At p e below m T6 43 #[.val (.int p0), .val (.int p1), .val (.int (0 : Int32)), .val (.int (0 : Int32)), .val (.ref a_WEAK_DENIAL)] [(.int (0 : Int32))] t
        refine XS.iloadN X6.here hx rfl (hb hby at_43) rfl ?_
        show own_At p e below m T6 44 #[.val (.int p0), .val (.int p1), .val (.int (0 : Int32)), .val (.int (0 : Int32)), .val (.ref a_WEAK_DENIAL)] [(.int (0 : Int32)), (.int (0 : Int32))] t
        refine XS.icmpNo X6.here hx rfl (hb hby at_44) rfl (teq (by decide : (0 : Int32) = (0 : Int32))).2 ?_
        show own_At p e below m T6 47 #[.val (.int p0), .val (.int p1), .val (.int (0 : Int32)), .val (.int (0 : Int32)), .val (.ref a_WEAK_DENIAL)] [] t
        refine XS.aload X6.here hx rfl (hb hby at_47) rfl rfl ?_
        show own_At p e below m T6 49 #[.val (.int p0), .val (.int p1), .val (.int (0 : Int32)), .val (.int (0 : Int32)), .val (.ref a_WEAK_DENIAL)] [(.ref a_WEAK_DENIAL)] t
        refine st7.trans ?_
        show own_At p e below m T7 52 #[.val (.int p0), .val (.int p1), .val (.int (0 : Int32)), .val (.int (0 : Int32)), .val (.ref a_WEAK_DENIAL)] [(.int (0 : Int32))] t
        refine XS.iloadN X7.here hx rfl (hb hby at_52) rfl ?_
        show own_At p e below m T7 53 #[.val (.int p0), .val (.int p1), .val (.int (0 : Int32)), .val (.int (0 : Int32)), .val (.ref a_WEAK_DENIAL)] [(.int (0 : Int32)), (.int (0 : Int32))] t
        refine XS.icmpNo X7.here hx rfl (hb hby at_53) rfl (teq (by decide : (0 : Int32) = (0 : Int32))).2 ?_
        show own_At p e below m T7 56 #[.val (.int p0), .val (.int p1), .val (.int (0 : Int32)), .val (.int (0 : Int32)), .val (.ref a_WEAK_DENIAL)] [] t
        refine XS.iconst X7.here hx rfl (hb hby at_56) ?_
        show own_At p e below m T7 57 #[.val (.int p0), .val (.int p1), .val (.int (0 : Int32)), .val (.int (0 : Int32)), .val (.ref a_WEAK_DENIAL)] [(.int (1 : Int32))] t
        refine XS.goto X7.here hx rfl (pc0 := 57) (pc' := 61) rfl (hb hby at_57) (by decide) (by decide) ?_
        show own_At p e below m T7 61 #[.val (.int p0), .val (.int p1), .val (.int (0 : Int32)), .val (.int (0 : Int32)), .val (.ref a_WEAK_DENIAL)] [(.int (1 : Int32))] t
        exact k
      obtain ⟨fs, hr, hrun, hended, hW, hsame⟩ := X7.leave (v := some (.int (1 : Int32))) (fun h => by rw [Bd.returns] at h; cases h)
      refine hNG ⟨_, _, k8 _ ?_, hrun, hended, _, _, rfl, ?_, ⟨_, rfl⟩, hW, hsame.mono (by decide) (by decide)⟩
      · exact retN X7 hx (t := .boolean) Bd.returns (by simp) (hb hby at_61) hr
      · show Q_law Z p0 p1 a_STRONG_DENIAL a_WEAK_DENIAL a_STRONG_PERMISSION a_WEAK_PERMISSION h0 n0 _ T7.heap _
        rw [hp7]
        exact ⟨rfl, N7⟩
    · obtain ⟨_, _, ⟨T9, L9, k9, n9⟩, -, X9, ⟨Lc9, hQ9, l9, y9, z9⟩, st9⟩ := Jvm.LawKit.callS X0 hx (y := own_m0) hown (mvT hZ (own_w hw 0 rfl)) (mvT hZ (own_w hw 1 rfl)) (mvT hZ (own_w hw 2 rfl)) (mvT hZ (own_w hw 3 rfl)) (by decide) (backOf (W := 0) (rm_f4 l Z a0 hw []  _ _ _ _ h0 n0 O0 hE) hZ (own_w hw 3 rfl) (own_w hw 2 rfl) (by decide) (by decide)) (g := (mkF m 26 #[.val (.int p0), .val (.int p1), .val (.int (0 : Int32)), .val (.int (1 : Int32)), .unset] [(.int (1 : Int32)), (.int (0 : Int32))])) rfl (by rw [hml]; rfl) (argsL := [(.int (0 : Int32)), (.int (1 : Int32))]) (rest := []) (lenOf pd__ZZ_Lcom_example_gate3_gate3_model_Right_ rfl) rfl (by show 2 * 0 + _ ≤ _; exact Nat.le_of_eq rfl) (hb hby at_26) (fun _ _ => ⟨rfl, e0, (by decide : 0 + 0 ≤ _), (by decide : 0 + 0 ≤ _)⟩)
      dsimp only [Pt.U, Pt.locs, Pt.cells, Pt.slots] at X9 l9 y9 z9 st9 hQ9
      subst l9 y9 z9
      obtain ⟨rfl, N9q, hp9⟩ := hQ9
      have N9 := Fr.app N0 N9q
      obtain ⟨cq10, kq10, q10a, q10b, q10c⟩ := isOf hZ hp9 (E_STRONG_DENIAL.ext O0.2)
      obtain ⟨_, _, ⟨T10, L10, k10, n10⟩, -, X10, ⟨Lc10, hQ10, l10, y10, z10⟩, st10⟩ := X9.virtualBack hx (y := own_m1) (z := own_m1) hown (mvT hZ (own_w hw 6 rfl)) (mvT hZ (own_w hw 7 rfl)) (notFace_of_selects (args := #[]) (mvT hZ (own_w hw 9 rfl))) (mvT hZ (own_w hw 9 rfl)) (mvT hZ (own_w hw 8 rfl)) (by decide) (backOf (W := 0) (rm_f5 l Z a0 hw []  _ _ _ _ h0 n0 O0 hE) hZ (own_w hw 10 rfl) (own_w hw 2 rfl) (by decide) (by decide)) q10a q10c (g := (mkF m 40 #[.val (.int p0), .val (.int p1), .val (.int (0 : Int32)), .val (.int (1 : Int32)), .val (.ref a_STRONG_DENIAL)] [(.ref a_STRONG_DENIAL)])) rfl (by rw [hml]; rfl) (Steps.refl _) (argsL := []) (rest := []) (lenOf pd___Z rfl) rfl (by show 2 * 0 + _ ≤ _; exact Nat.le_of_eq rfl) (hb hby at_40) (fun _ _ => ⟨rfl, hp9, (by decide : 0 + 0 ≤ _), (by decide : 0 + 0 ≤ _)⟩)
      dsimp only [Pt.U, Pt.locs, Pt.cells, Pt.slots] at X10 l10 y10 z10 st10 hQ10
      subst l10 y10 z10
      obtain ⟨rfl, N10q, hp10⟩ := hQ10
      have N10 := Fr.app N9 N10q
      obtain ⟨cq11, kq11, q11a, q11b, q11c⟩ := isOf hZ hp10 (E_STRONG_DENIAL.ext O0.2)
      obtain ⟨_, _, ⟨T11, L11, k11, n11⟩, -, X11, ⟨Lc11, hQ11, l11, y11, z11⟩, st11⟩ := X10.virtualBack hx (y := own_m2) (z := own_m2) hown (mvT hZ (own_w hw 13 rfl)) (mvT hZ (own_w hw 14 rfl)) (notFace_of_selects (args := #[]) (mvT hZ (own_w hw 16 rfl))) (mvT hZ (own_w hw 16 rfl)) (mvT hZ (own_w hw 15 rfl)) (by decide) (backOf (W := 0) (rm_f6 l Z a0 hw []  _ _ _ _ h0 n0 O0 hE) hZ (own_w hw 17 rfl) (own_w hw 2 rfl) (by decide) (by decide)) q11a q11c (g := (mkF m 49 #[.val (.int p0), .val (.int p1), .val (.int (0 : Int32)), .val (.int (1 : Int32)), .val (.ref a_STRONG_DENIAL)] [(.ref a_STRONG_DENIAL)])) rfl (by rw [hml]; rfl) (Steps.refl _) (argsL := []) (rest := []) (lenOf pd___Z rfl) rfl (by show 2 * 0 + _ ≤ _; exact Nat.le_of_eq rfl) (hb hby at_49) (fun _ _ => ⟨rfl, hp10, (by decide : 0 + 0 ≤ _), (by decide : 0 + 0 ≤ _)⟩)
      dsimp only [Pt.U, Pt.locs, Pt.cells, Pt.slots] at X11 l11 y11 z11 st11 hQ11
      subst l11 y11 z11
      obtain ⟨rfl, N11q, hp11⟩ := hQ11
      have N11 := Fr.app N10 N11q
      have k12 : ∀ t, own_At p e below m T11 61 #[.val (.int p0), .val (.int p1), .val (.int (0 : Int32)), .val (.int (1 : Int32)), .val (.ref a_STRONG_DENIAL)] [(.int (1 : Int32))] t → own_En p e below m s₁ #[(.int p0), (.int p1)] maxLocals t := by
        intro t k
        refine k3 t ?_
        refine XS.ifNo X0.here hx rfl (hb hby at_15) rfl ((if0 _ _).trans (feq hc4).1) ?_
        show own_At p e below m s₁ 18 #[.val (.int p0), .val (.int p1), .val (.int (0 : Int32)), .unset, .unset] [] t
        refine XS.iconst X0.here hx rfl (hb hby at_18) ?_
        show own_At p e below m s₁ 19 #[.val (.int p0), .val (.int p1), .val (.int (0 : Int32)), .unset, .unset] [(.int (1 : Int32))] t
        refine XS.goto X0.here hx rfl (pc0 := 19) (pc' := 23) rfl (hb hby at_19) (by decide) (by decide) ?_
        show own_At p e below m s₁ 23 #[.val (.int p0), .val (.int p1), .val (.int (0 : Int32)), .unset, .unset] [(.int (1 : Int32))] t
        refine XS.istoreN X0.here hx rfl (hb hby at_23) rfl (l' := #[.val (.int p0), .val (.int p1), .val (.int (0 : Int32)), .val (.int (1 : Int32)), .unset]) rfl ?_
        show own_At p e below m s₁ 24 #[.val (.int p0), .val (.int p1), .val (.int (0 : Int32)), .val (.int (1 : Int32)), .unset] [] t
        refine XS.iloadN X0.here hx rfl (hb hby at_24) rfl ?_
        show own_At p e below m s₁ 25 #[.val (.int p0), .val (.int p1), .val (.int (0 : Int32)), .val (.int (1 : Int32)), .unset] [(.int (0 : Int32))] t
        refine XS.iloadN X0.here hx rfl (hb hby at_25) rfl ?_
        show own_At p e below m s₁ 26 #[.val (.int p0), .val (.int p1), .val (.int (0 : Int32)), .val (.int (1 : Int32)), .unset] [(.int (1 : Int32)), (.int (0 : Int32))] t
        refine st9 _ ?_
        show own_At p e below m T9 29 #[.val (.int p0), .val (.int p1), .val (.int (0 : Int32)), .val (.int (1 : Int32)), .unset] [(.ref a_STRONG_DENIAL)] t
        refine XS.astore X9.here hx rfl (hb hby at_29) rfl rfl (l' := #[.val (.int p0), .val (.int p1), .val (.int (0 : Int32)), .val (.int (1 : Int32)), .val (.ref a_STRONG_DENIAL)]) rfl ?_
        show own_At p e below m T9 31 #[.val (.int p0), .val (.int p1), .val (.int (0 : Int32)), .val (.int (1 : Int32)), .val (.ref a_STRONG_DENIAL)] [] t
        refine XS.aload X9.here hx rfl (hb hby at_31) rfl rfl ?_
        show own_At p e below m T9 33 #[.val (.int p0), .val (.int p1), .val (.int (0 : Int32)), .val (.int (1 : Int32)), .val (.ref a_STRONG_DENIAL)] [(.ref a_STRONG_DENIAL)] t
        refine XS.ifnonnullYes X9.here hx rfl (pc0 := 33) (pc' := 38) rfl (hb hby at_33) rfl (by decide) (by decide) ?_
        show own_At p e below m T9 38 #[.val (.int p0), .val (.int p1), .val (.int (0 : Int32)), .val (.int (1 : Int32)), .val (.ref a_STRONG_DENIAL)] [] t
        refine XS.aload X9.here hx rfl (hb hby at_38) rfl rfl ?_
        show own_At p e below m T9 40 #[.val (.int p0), .val (.int p1), .val (.int (0 : Int32)), .val (.int (1 : Int32)), .val (.ref a_STRONG_DENIAL)] [(.ref a_STRONG_DENIAL)] t
        refine st10.trans ?_
        show own_At p e below m T10 43 #[.val (.int p0), .val (.int p1), .val (.int (0 : Int32)), .val (.int (1 : Int32)), .val (.ref a_STRONG_DENIAL)] [(.int (0 : Int32))] t
        refine XS.iloadN X10.here hx rfl (hb hby at_43) rfl ?_
        show own_At p e below m T10 44 #[.val (.int p0), .val (.int p1), .val (.int (0 : Int32)), .val (.int (1 : Int32)), .val (.ref a_STRONG_DENIAL)] [(.int (0 : Int32)), (.int (0 : Int32))] t
        refine XS.icmpNo X10.here hx rfl (hb hby at_44) rfl (teq (by decide : (0 : Int32) = (0 : Int32))).2 ?_
        show own_At p e below m T10 47 #[.val (.int p0), .val (.int p1), .val (.int (0 : Int32)), .val (.int (1 : Int32)), .val (.ref a_STRONG_DENIAL)] [] t
        refine XS.aload X10.here hx rfl (hb hby at_47) rfl rfl ?_
        show own_At p e below m T10 49 #[.val (.int p0), .val (.int p1), .val (.int (0 : Int32)), .val (.int (1 : Int32)), .val (.ref a_STRONG_DENIAL)] [(.ref a_STRONG_DENIAL)] t
        refine st11.trans ?_
        show own_At p e below m T11 52 #[.val (.int p0), .val (.int p1), .val (.int (0 : Int32)), .val (.int (1 : Int32)), .val (.ref a_STRONG_DENIAL)] [(.int (1 : Int32))] t
        refine XS.iloadN X11.here hx rfl (hb hby at_52) rfl ?_
        show own_At p e below m T11 53 #[.val (.int p0), .val (.int p1), .val (.int (0 : Int32)), .val (.int (1 : Int32)), .val (.ref a_STRONG_DENIAL)] [(.int (1 : Int32)), (.int (1 : Int32))] t
        refine XS.icmpNo X11.here hx rfl (hb hby at_53) rfl (teq (by decide : (1 : Int32) = (1 : Int32))).2 ?_
        show own_At p e below m T11 56 #[.val (.int p0), .val (.int p1), .val (.int (0 : Int32)), .val (.int (1 : Int32)), .val (.ref a_STRONG_DENIAL)] [] t
        refine XS.iconst X11.here hx rfl (hb hby at_56) ?_
        show own_At p e below m T11 57 #[.val (.int p0), .val (.int p1), .val (.int (0 : Int32)), .val (.int (1 : Int32)), .val (.ref a_STRONG_DENIAL)] [(.int (1 : Int32))] t
        refine XS.goto X11.here hx rfl (pc0 := 57) (pc' := 61) rfl (hb hby at_57) (by decide) (by decide) ?_
        show own_At p e below m T11 61 #[.val (.int p0), .val (.int p1), .val (.int (0 : Int32)), .val (.int (1 : Int32)), .val (.ref a_STRONG_DENIAL)] [(.int (1 : Int32))] t
        exact k
      obtain ⟨fs, hr, hrun, hended, hW, hsame⟩ := X11.leave (v := some (.int (1 : Int32))) (fun h => by rw [Bd.returns] at h; cases h)
      refine hNG ⟨_, _, k12 _ ?_, hrun, hended, _, _, rfl, ?_, ⟨_, rfl⟩, hW, hsame.mono (by decide) (by decide)⟩
      · exact retN X11 hx (t := .boolean) Bd.returns (by simp) (hb hby at_61) hr
      · show Q_law Z p0 p1 a_STRONG_DENIAL a_WEAK_DENIAL a_STRONG_PERMISSION a_WEAK_PERMISSION h0 n0 _ T11.heap _
        rw [hp11]
        exact ⟨rfl, N11⟩
  · have k13 : ∀ t, own_At p e below m s₁ 15 #[.val (.int p0), .val (.int p1), .val (.int (1 : Int32)), .unset, .unset] [(.int (p1 &&& (1 : Int32)))] t → own_En p e below m s₁ #[(.int p0), (.int p1)] maxLocals t := by
      intro t k
      refine k1 t ?_
      refine XS.ifNo X0.here hx rfl (hb hby at_3) rfl ((if0 _ _).trans (feq hc2).1) ?_
      show own_At p e below m s₁ 6 #[.val (.int p0), .val (.int p1), .unset, .unset, .unset] [] t
      refine XS.iconst X0.here hx rfl (hb hby at_6) ?_
      show own_At p e below m s₁ 7 #[.val (.int p0), .val (.int p1), .unset, .unset, .unset] [(.int (1 : Int32))] t
      refine XS.goto X0.here hx rfl (pc0 := 7) (pc' := 11) rfl (hb hby at_7) (by decide) (by decide) ?_
      show own_At p e below m s₁ 11 #[.val (.int p0), .val (.int p1), .unset, .unset, .unset] [(.int (1 : Int32))] t
      refine XS.istoreN X0.here hx rfl (hb hby at_11) rfl (l' := #[.val (.int p0), .val (.int p1), .val (.int (1 : Int32)), .unset, .unset]) rfl ?_
      show own_At p e below m s₁ 12 #[.val (.int p0), .val (.int p1), .val (.int (1 : Int32)), .unset, .unset] [] t
      refine XS.iloadN X0.here hx rfl (hb hby at_12) rfl ?_
      show own_At p e below m s₁ 13 #[.val (.int p0), .val (.int p1), .val (.int (1 : Int32)), .unset, .unset] [(.int p1)] t
      refine XS.iconst X0.here hx rfl (hb hby at_13) ?_
      show own_At p e below m s₁ 14 #[.val (.int p0), .val (.int p1), .val (.int (1 : Int32)), .unset, .unset] [(.int (1 : Int32)), (.int p1)] t
      refine XS.iand X0.here hx rfl (hb hby at_14) rfl ?_
      show own_At p e below m s₁ 15 #[.val (.int p0), .val (.int p1), .val (.int (1 : Int32)), .unset, .unset] [(.int (p1 &&& (1 : Int32)))] t
      exact k
    by_cases hc14 : (p1 &&& (1 : Int32)) = (0 : Int32)
    · obtain ⟨_, _, ⟨T15, L15, k15, n15⟩, -, X15, ⟨Lc15, hQ15, l15, y15, z15⟩, st15⟩ := Jvm.LawKit.callS X0 hx (y := own_m0) hown (mvT hZ (own_w hw 0 rfl)) (mvT hZ (own_w hw 1 rfl)) (mvT hZ (own_w hw 2 rfl)) (mvT hZ (own_w hw 3 rfl)) (by decide) (backOf (W := 0) (rm_f7 l Z a0 hw []  _ _ _ _ h0 n0 O0 hE) hZ (own_w hw 3 rfl) (own_w hw 2 rfl) (by decide) (by decide)) (g := (mkF m 26 #[.val (.int p0), .val (.int p1), .val (.int (1 : Int32)), .val (.int (0 : Int32)), .unset] [(.int (0 : Int32)), (.int (1 : Int32))])) rfl (by rw [hml]; rfl) (argsL := [(.int (1 : Int32)), (.int (0 : Int32))]) (rest := []) (lenOf pd__ZZ_Lcom_example_gate3_gate3_model_Right_ rfl) rfl (by show 2 * 0 + _ ≤ _; exact Nat.le_of_eq rfl) (hb hby at_26) (fun _ _ => ⟨rfl, e0, (by decide : 0 + 0 ≤ _), (by decide : 0 + 0 ≤ _)⟩)
      dsimp only [Pt.U, Pt.locs, Pt.cells, Pt.slots] at X15 l15 y15 z15 st15 hQ15
      subst l15 y15 z15
      obtain ⟨rfl, N15q, hp15⟩ := hQ15
      have N15 := Fr.app N0 N15q
      obtain ⟨cq16, kq16, q16a, q16b, q16c⟩ := isOf hZ hp15 (E_WEAK_PERMISSION.ext O0.2)
      obtain ⟨_, _, ⟨T16, L16, k16, n16⟩, -, X16, ⟨Lc16, hQ16, l16, y16, z16⟩, st16⟩ := X15.virtualBack hx (y := own_m1) (z := own_m1) hown (mvT hZ (own_w hw 6 rfl)) (mvT hZ (own_w hw 7 rfl)) (notFace_of_selects (args := #[]) (mvT hZ (own_w hw 9 rfl))) (mvT hZ (own_w hw 9 rfl)) (mvT hZ (own_w hw 8 rfl)) (by decide) (backOf (W := 0) (rm_f8 l Z a0 hw []  _ _ _ _ h0 n0 O0 hE) hZ (own_w hw 10 rfl) (own_w hw 2 rfl) (by decide) (by decide)) q16a q16c (g := (mkF m 40 #[.val (.int p0), .val (.int p1), .val (.int (1 : Int32)), .val (.int (0 : Int32)), .val (.ref a_WEAK_PERMISSION)] [(.ref a_WEAK_PERMISSION)])) rfl (by rw [hml]; rfl) (Steps.refl _) (argsL := []) (rest := []) (lenOf pd___Z rfl) rfl (by show 2 * 0 + _ ≤ _; exact Nat.le_of_eq rfl) (hb hby at_40) (fun _ _ => ⟨rfl, hp15, (by decide : 0 + 0 ≤ _), (by decide : 0 + 0 ≤ _)⟩)
      dsimp only [Pt.U, Pt.locs, Pt.cells, Pt.slots] at X16 l16 y16 z16 st16 hQ16
      subst l16 y16 z16
      obtain ⟨rfl, N16q, hp16⟩ := hQ16
      have N16 := Fr.app N15 N16q
      obtain ⟨cq17, kq17, q17a, q17b, q17c⟩ := isOf hZ hp16 (E_WEAK_PERMISSION.ext O0.2)
      obtain ⟨_, _, ⟨T17, L17, k17, n17⟩, -, X17, ⟨Lc17, hQ17, l17, y17, z17⟩, st17⟩ := X16.virtualBack hx (y := own_m2) (z := own_m2) hown (mvT hZ (own_w hw 13 rfl)) (mvT hZ (own_w hw 14 rfl)) (notFace_of_selects (args := #[]) (mvT hZ (own_w hw 16 rfl))) (mvT hZ (own_w hw 16 rfl)) (mvT hZ (own_w hw 15 rfl)) (by decide) (backOf (W := 0) (rm_f9 l Z a0 hw []  _ _ _ _ h0 n0 O0 hE) hZ (own_w hw 17 rfl) (own_w hw 2 rfl) (by decide) (by decide)) q17a q17c (g := (mkF m 49 #[.val (.int p0), .val (.int p1), .val (.int (1 : Int32)), .val (.int (0 : Int32)), .val (.ref a_WEAK_PERMISSION)] [(.ref a_WEAK_PERMISSION)])) rfl (by rw [hml]; rfl) (Steps.refl _) (argsL := []) (rest := []) (lenOf pd___Z rfl) rfl (by show 2 * 0 + _ ≤ _; exact Nat.le_of_eq rfl) (hb hby at_49) (fun _ _ => ⟨rfl, hp16, (by decide : 0 + 0 ≤ _), (by decide : 0 + 0 ≤ _)⟩)
      dsimp only [Pt.U, Pt.locs, Pt.cells, Pt.slots] at X17 l17 y17 z17 st17 hQ17
      subst l17 y17 z17
      obtain ⟨rfl, N17q, hp17⟩ := hQ17
      have N17 := Fr.app N16 N17q
      have k18 : ∀ t, own_At p e below m T17 61 #[.val (.int p0), .val (.int p1), .val (.int (1 : Int32)), .val (.int (0 : Int32)), .val (.ref a_WEAK_PERMISSION)] [(.int (1 : Int32))] t → own_En p e below m s₁ #[(.int p0), (.int p1)] maxLocals t := by
        intro t k
        refine k13 t ?_
        refine XS.ifYes X0.here hx rfl (pc0 := 15) (pc' := 22) rfl (hb hby at_15) rfl ((if0 _ _).trans (teq hc14).1) (by decide) (by decide) ?_
        show own_At p e below m s₁ 22 #[.val (.int p0), .val (.int p1), .val (.int (1 : Int32)), .unset, .unset] [] t
        refine XS.iconst X0.here hx rfl (hb hby at_22) ?_
        show own_At p e below m s₁ 23 #[.val (.int p0), .val (.int p1), .val (.int (1 : Int32)), .unset, .unset] [(.int (0 : Int32))] t
        refine XS.istoreN X0.here hx rfl (hb hby at_23) rfl (l' := #[.val (.int p0), .val (.int p1), .val (.int (1 : Int32)), .val (.int (0 : Int32)), .unset]) rfl ?_
        show own_At p e below m s₁ 24 #[.val (.int p0), .val (.int p1), .val (.int (1 : Int32)), .val (.int (0 : Int32)), .unset] [] t
        refine XS.iloadN X0.here hx rfl (hb hby at_24) rfl ?_
        show own_At p e below m s₁ 25 #[.val (.int p0), .val (.int p1), .val (.int (1 : Int32)), .val (.int (0 : Int32)), .unset] [(.int (1 : Int32))] t
        refine XS.iloadN X0.here hx rfl (hb hby at_25) rfl ?_
        show own_At p e below m s₁ 26 #[.val (.int p0), .val (.int p1), .val (.int (1 : Int32)), .val (.int (0 : Int32)), .unset] [(.int (0 : Int32)), (.int (1 : Int32))] t
        refine st15 _ ?_
        show own_At p e below m T15 29 #[.val (.int p0), .val (.int p1), .val (.int (1 : Int32)), .val (.int (0 : Int32)), .unset] [(.ref a_WEAK_PERMISSION)] t
        refine XS.astore X15.here hx rfl (hb hby at_29) rfl rfl (l' := #[.val (.int p0), .val (.int p1), .val (.int (1 : Int32)), .val (.int (0 : Int32)), .val (.ref a_WEAK_PERMISSION)]) rfl ?_
        show own_At p e below m T15 31 #[.val (.int p0), .val (.int p1), .val (.int (1 : Int32)), .val (.int (0 : Int32)), .val (.ref a_WEAK_PERMISSION)] [] t
        refine XS.aload X15.here hx rfl (hb hby at_31) rfl rfl ?_
        show own_At p e below m T15 33 #[.val (.int p0), .val (.int p1), .val (.int (1 : Int32)), .val (.int (0 : Int32)), .val (.ref a_WEAK_PERMISSION)] [(.ref a_WEAK_PERMISSION)] t
        refine XS.ifnonnullYes X15.here hx rfl (pc0 := 33) (pc' := 38) rfl (hb hby at_33) rfl (by decide) (by decide) ?_
        show own_At p e below m T15 38 #[.val (.int p0), .val (.int p1), .val (.int (1 : Int32)), .val (.int (0 : Int32)), .val (.ref a_WEAK_PERMISSION)] [] t
        refine XS.aload X15.here hx rfl (hb hby at_38) rfl rfl ?_
        show own_At p e below m T15 40 #[.val (.int p0), .val (.int p1), .val (.int (1 : Int32)), .val (.int (0 : Int32)), .val (.ref a_WEAK_PERMISSION)] [(.ref a_WEAK_PERMISSION)] t
        refine st16.trans ?_
        show own_At p e below m T16 43 #[.val (.int p0), .val (.int p1), .val (.int (1 : Int32)), .val (.int (0 : Int32)), .val (.ref a_WEAK_PERMISSION)] [(.int (1 : Int32))] t
        refine XS.iloadN X16.here hx rfl (hb hby at_43) rfl ?_
        show own_At p e below m T16 44 #[.val (.int p0), .val (.int p1), .val (.int (1 : Int32)), .val (.int (0 : Int32)), .val (.ref a_WEAK_PERMISSION)] [(.int (1 : Int32)), (.int (1 : Int32))] t
        refine XS.icmpNo X16.here hx rfl (hb hby at_44) rfl (teq (by decide : (1 : Int32) = (1 : Int32))).2 ?_
        show own_At p e below m T16 47 #[.val (.int p0), .val (.int p1), .val (.int (1 : Int32)), .val (.int (0 : Int32)), .val (.ref a_WEAK_PERMISSION)] [] t
        refine XS.aload X16.here hx rfl (hb hby at_47) rfl rfl ?_
        show own_At p e below m T16 49 #[.val (.int p0), .val (.int p1), .val (.int (1 : Int32)), .val (.int (0 : Int32)), .val (.ref a_WEAK_PERMISSION)] [(.ref a_WEAK_PERMISSION)] t
        refine st17.trans ?_
        show own_At p e below m T17 52 #[.val (.int p0), .val (.int p1), .val (.int (1 : Int32)), .val (.int (0 : Int32)), .val (.ref a_WEAK_PERMISSION)] [(.int (0 : Int32))] t
        refine XS.iloadN X17.here hx rfl (hb hby at_52) rfl ?_
        show own_At p e below m T17 53 #[.val (.int p0), .val (.int p1), .val (.int (1 : Int32)), .val (.int (0 : Int32)), .val (.ref a_WEAK_PERMISSION)] [(.int (0 : Int32)), (.int (0 : Int32))] t
        refine XS.icmpNo X17.here hx rfl (hb hby at_53) rfl (teq (by decide : (0 : Int32) = (0 : Int32))).2 ?_
        show own_At p e below m T17 56 #[.val (.int p0), .val (.int p1), .val (.int (1 : Int32)), .val (.int (0 : Int32)), .val (.ref a_WEAK_PERMISSION)] [] t
        refine XS.iconst X17.here hx rfl (hb hby at_56) ?_
        show own_At p e below m T17 57 #[.val (.int p0), .val (.int p1), .val (.int (1 : Int32)), .val (.int (0 : Int32)), .val (.ref a_WEAK_PERMISSION)] [(.int (1 : Int32))] t
        refine XS.goto X17.here hx rfl (pc0 := 57) (pc' := 61) rfl (hb hby at_57) (by decide) (by decide) ?_
        show own_At p e below m T17 61 #[.val (.int p0), .val (.int p1), .val (.int (1 : Int32)), .val (.int (0 : Int32)), .val (.ref a_WEAK_PERMISSION)] [(.int (1 : Int32))] t
        exact k
      obtain ⟨fs, hr, hrun, hended, hW, hsame⟩ := X17.leave (v := some (.int (1 : Int32))) (fun h => by rw [Bd.returns] at h; cases h)
      refine hNG ⟨_, _, k18 _ ?_, hrun, hended, _, _, rfl, ?_, ⟨_, rfl⟩, hW, hsame.mono (by decide) (by decide)⟩
      · exact retN X17 hx (t := .boolean) Bd.returns (by simp) (hb hby at_61) hr
      · show Q_law Z p0 p1 a_STRONG_DENIAL a_WEAK_DENIAL a_STRONG_PERMISSION a_WEAK_PERMISSION h0 n0 _ T17.heap _
        rw [hp17]
        exact ⟨rfl, N17⟩
    · obtain ⟨_, _, ⟨T19, L19, k19, n19⟩, -, X19, ⟨Lc19, hQ19, l19, y19, z19⟩, st19⟩ := Jvm.LawKit.callS X0 hx (y := own_m0) hown (mvT hZ (own_w hw 0 rfl)) (mvT hZ (own_w hw 1 rfl)) (mvT hZ (own_w hw 2 rfl)) (mvT hZ (own_w hw 3 rfl)) (by decide) (backOf (W := 0) (rm_f10 l Z a0 hw []  _ _ _ _ h0 n0 O0 hE) hZ (own_w hw 3 rfl) (own_w hw 2 rfl) (by decide) (by decide)) (g := (mkF m 26 #[.val (.int p0), .val (.int p1), .val (.int (1 : Int32)), .val (.int (1 : Int32)), .unset] [(.int (1 : Int32)), (.int (1 : Int32))])) rfl (by rw [hml]; rfl) (argsL := [(.int (1 : Int32)), (.int (1 : Int32))]) (rest := []) (lenOf pd__ZZ_Lcom_example_gate3_gate3_model_Right_ rfl) rfl (by show 2 * 0 + _ ≤ _; exact Nat.le_of_eq rfl) (hb hby at_26) (fun _ _ => ⟨rfl, e0, (by decide : 0 + 0 ≤ _), (by decide : 0 + 0 ≤ _)⟩)
      dsimp only [Pt.U, Pt.locs, Pt.cells, Pt.slots] at X19 l19 y19 z19 st19 hQ19
      subst l19 y19 z19
      obtain ⟨rfl, N19q, hp19⟩ := hQ19
      have N19 := Fr.app N0 N19q
      obtain ⟨cq20, kq20, q20a, q20b, q20c⟩ := isOf hZ hp19 (E_STRONG_PERMISSION.ext O0.2)
      obtain ⟨_, _, ⟨T20, L20, k20, n20⟩, -, X20, ⟨Lc20, hQ20, l20, y20, z20⟩, st20⟩ := X19.virtualBack hx (y := own_m1) (z := own_m1) hown (mvT hZ (own_w hw 6 rfl)) (mvT hZ (own_w hw 7 rfl)) (notFace_of_selects (args := #[]) (mvT hZ (own_w hw 9 rfl))) (mvT hZ (own_w hw 9 rfl)) (mvT hZ (own_w hw 8 rfl)) (by decide) (backOf (W := 0) (rm_f11 l Z a0 hw []  _ _ _ _ h0 n0 O0 hE) hZ (own_w hw 10 rfl) (own_w hw 2 rfl) (by decide) (by decide)) q20a q20c (g := (mkF m 40 #[.val (.int p0), .val (.int p1), .val (.int (1 : Int32)), .val (.int (1 : Int32)), .val (.ref a_STRONG_PERMISSION)] [(.ref a_STRONG_PERMISSION)])) rfl (by rw [hml]; rfl) (Steps.refl _) (argsL := []) (rest := []) (lenOf pd___Z rfl) rfl (by show 2 * 0 + _ ≤ _; exact Nat.le_of_eq rfl) (hb hby at_40) (fun _ _ => ⟨rfl, hp19, (by decide : 0 + 0 ≤ _), (by decide : 0 + 0 ≤ _)⟩)
      dsimp only [Pt.U, Pt.locs, Pt.cells, Pt.slots] at X20 l20 y20 z20 st20 hQ20
      subst l20 y20 z20
      obtain ⟨rfl, N20q, hp20⟩ := hQ20
      have N20 := Fr.app N19 N20q
      obtain ⟨cq21, kq21, q21a, q21b, q21c⟩ := isOf hZ hp20 (E_STRONG_PERMISSION.ext O0.2)
      obtain ⟨_, _, ⟨T21, L21, k21, n21⟩, -, X21, ⟨Lc21, hQ21, l21, y21, z21⟩, st21⟩ := X20.virtualBack hx (y := own_m2) (z := own_m2) hown (mvT hZ (own_w hw 13 rfl)) (mvT hZ (own_w hw 14 rfl)) (notFace_of_selects (args := #[]) (mvT hZ (own_w hw 16 rfl))) (mvT hZ (own_w hw 16 rfl)) (mvT hZ (own_w hw 15 rfl)) (by decide) (backOf (W := 0) (rm_f12 l Z a0 hw []  _ _ _ _ h0 n0 O0 hE) hZ (own_w hw 17 rfl) (own_w hw 2 rfl) (by decide) (by decide)) q21a q21c (g := (mkF m 49 #[.val (.int p0), .val (.int p1), .val (.int (1 : Int32)), .val (.int (1 : Int32)), .val (.ref a_STRONG_PERMISSION)] [(.ref a_STRONG_PERMISSION)])) rfl (by rw [hml]; rfl) (Steps.refl _) (argsL := []) (rest := []) (lenOf pd___Z rfl) rfl (by show 2 * 0 + _ ≤ _; exact Nat.le_of_eq rfl) (hb hby at_49) (fun _ _ => ⟨rfl, hp20, (by decide : 0 + 0 ≤ _), (by decide : 0 + 0 ≤ _)⟩)
      dsimp only [Pt.U, Pt.locs, Pt.cells, Pt.slots] at X21 l21 y21 z21 st21 hQ21
      subst l21 y21 z21
      obtain ⟨rfl, N21q, hp21⟩ := hQ21
      have N21 := Fr.app N20 N21q
      have k22 : ∀ t, own_At p e below m T21 61 #[.val (.int p0), .val (.int p1), .val (.int (1 : Int32)), .val (.int (1 : Int32)), .val (.ref a_STRONG_PERMISSION)] [(.int (1 : Int32))] t → own_En p e below m s₁ #[(.int p0), (.int p1)] maxLocals t := by
        intro t k
        refine k13 t ?_
        refine XS.ifNo X0.here hx rfl (hb hby at_15) rfl ((if0 _ _).trans (feq hc14).1) ?_
        show own_At p e below m s₁ 18 #[.val (.int p0), .val (.int p1), .val (.int (1 : Int32)), .unset, .unset] [] t
        refine XS.iconst X0.here hx rfl (hb hby at_18) ?_
        show own_At p e below m s₁ 19 #[.val (.int p0), .val (.int p1), .val (.int (1 : Int32)), .unset, .unset] [(.int (1 : Int32))] t
        refine XS.goto X0.here hx rfl (pc0 := 19) (pc' := 23) rfl (hb hby at_19) (by decide) (by decide) ?_
        show own_At p e below m s₁ 23 #[.val (.int p0), .val (.int p1), .val (.int (1 : Int32)), .unset, .unset] [(.int (1 : Int32))] t
        refine XS.istoreN X0.here hx rfl (hb hby at_23) rfl (l' := #[.val (.int p0), .val (.int p1), .val (.int (1 : Int32)), .val (.int (1 : Int32)), .unset]) rfl ?_
        show own_At p e below m s₁ 24 #[.val (.int p0), .val (.int p1), .val (.int (1 : Int32)), .val (.int (1 : Int32)), .unset] [] t
        refine XS.iloadN X0.here hx rfl (hb hby at_24) rfl ?_
        show own_At p e below m s₁ 25 #[.val (.int p0), .val (.int p1), .val (.int (1 : Int32)), .val (.int (1 : Int32)), .unset] [(.int (1 : Int32))] t
        refine XS.iloadN X0.here hx rfl (hb hby at_25) rfl ?_
        show own_At p e below m s₁ 26 #[.val (.int p0), .val (.int p1), .val (.int (1 : Int32)), .val (.int (1 : Int32)), .unset] [(.int (1 : Int32)), (.int (1 : Int32))] t
        refine st19 _ ?_
        show own_At p e below m T19 29 #[.val (.int p0), .val (.int p1), .val (.int (1 : Int32)), .val (.int (1 : Int32)), .unset] [(.ref a_STRONG_PERMISSION)] t
        refine XS.astore X19.here hx rfl (hb hby at_29) rfl rfl (l' := #[.val (.int p0), .val (.int p1), .val (.int (1 : Int32)), .val (.int (1 : Int32)), .val (.ref a_STRONG_PERMISSION)]) rfl ?_
        show own_At p e below m T19 31 #[.val (.int p0), .val (.int p1), .val (.int (1 : Int32)), .val (.int (1 : Int32)), .val (.ref a_STRONG_PERMISSION)] [] t
        refine XS.aload X19.here hx rfl (hb hby at_31) rfl rfl ?_
        show own_At p e below m T19 33 #[.val (.int p0), .val (.int p1), .val (.int (1 : Int32)), .val (.int (1 : Int32)), .val (.ref a_STRONG_PERMISSION)] [(.ref a_STRONG_PERMISSION)] t
        refine XS.ifnonnullYes X19.here hx rfl (pc0 := 33) (pc' := 38) rfl (hb hby at_33) rfl (by decide) (by decide) ?_
        show own_At p e below m T19 38 #[.val (.int p0), .val (.int p1), .val (.int (1 : Int32)), .val (.int (1 : Int32)), .val (.ref a_STRONG_PERMISSION)] [] t
        refine XS.aload X19.here hx rfl (hb hby at_38) rfl rfl ?_
        show own_At p e below m T19 40 #[.val (.int p0), .val (.int p1), .val (.int (1 : Int32)), .val (.int (1 : Int32)), .val (.ref a_STRONG_PERMISSION)] [(.ref a_STRONG_PERMISSION)] t
        refine st20.trans ?_
        show own_At p e below m T20 43 #[.val (.int p0), .val (.int p1), .val (.int (1 : Int32)), .val (.int (1 : Int32)), .val (.ref a_STRONG_PERMISSION)] [(.int (1 : Int32))] t
        refine XS.iloadN X20.here hx rfl (hb hby at_43) rfl ?_
        show own_At p e below m T20 44 #[.val (.int p0), .val (.int p1), .val (.int (1 : Int32)), .val (.int (1 : Int32)), .val (.ref a_STRONG_PERMISSION)] [(.int (1 : Int32)), (.int (1 : Int32))] t
        refine XS.icmpNo X20.here hx rfl (hb hby at_44) rfl (teq (by decide : (1 : Int32) = (1 : Int32))).2 ?_
        show own_At p e below m T20 47 #[.val (.int p0), .val (.int p1), .val (.int (1 : Int32)), .val (.int (1 : Int32)), .val (.ref a_STRONG_PERMISSION)] [] t
        refine XS.aload X20.here hx rfl (hb hby at_47) rfl rfl ?_
        show own_At p e below m T20 49 #[.val (.int p0), .val (.int p1), .val (.int (1 : Int32)), .val (.int (1 : Int32)), .val (.ref a_STRONG_PERMISSION)] [(.ref a_STRONG_PERMISSION)] t
        refine st21.trans ?_
        show own_At p e below m T21 52 #[.val (.int p0), .val (.int p1), .val (.int (1 : Int32)), .val (.int (1 : Int32)), .val (.ref a_STRONG_PERMISSION)] [(.int (1 : Int32))] t
        refine XS.iloadN X21.here hx rfl (hb hby at_52) rfl ?_
        show own_At p e below m T21 53 #[.val (.int p0), .val (.int p1), .val (.int (1 : Int32)), .val (.int (1 : Int32)), .val (.ref a_STRONG_PERMISSION)] [(.int (1 : Int32)), (.int (1 : Int32))] t
        refine XS.icmpNo X21.here hx rfl (hb hby at_53) rfl (teq (by decide : (1 : Int32) = (1 : Int32))).2 ?_
        show own_At p e below m T21 56 #[.val (.int p0), .val (.int p1), .val (.int (1 : Int32)), .val (.int (1 : Int32)), .val (.ref a_STRONG_PERMISSION)] [] t
        refine XS.iconst X21.here hx rfl (hb hby at_56) ?_
        show own_At p e below m T21 57 #[.val (.int p0), .val (.int p1), .val (.int (1 : Int32)), .val (.int (1 : Int32)), .val (.ref a_STRONG_PERMISSION)] [(.int (1 : Int32))] t
        refine XS.goto X21.here hx rfl (pc0 := 57) (pc' := 61) rfl (hb hby at_57) (by decide) (by decide) ?_
        show own_At p e below m T21 61 #[.val (.int p0), .val (.int p1), .val (.int (1 : Int32)), .val (.int (1 : Int32)), .val (.ref a_STRONG_PERMISSION)] [(.int (1 : Int32))] t
        exact k
      obtain ⟨fs, hr, hrun, hended, hW, hsame⟩ := X21.leave (v := some (.int (1 : Int32))) (fun h => by rw [Bd.returns] at h; cases h)
      refine hNG ⟨_, _, k22 _ ?_, hrun, hended, _, _, rfl, ?_, ⟨_, rfl⟩, hW, hsame.mono (by decide) (by decide)⟩
      · exact retN X21 hx (t := .boolean) Bd.returns (by simp) (hb hby at_61) hr
      · show Q_law Z p0 p1 a_STRONG_DENIAL a_WEAK_DENIAL a_STRONG_PERMISSION a_WEAK_PERMISSION h0 n0 _ T21.heap _
        rw [hp21]
        exact ⟨rfl, N21⟩
set_option maxRecDepth 65536 in
set_option maxHeartbeats 40000000 in
theorem comes_1 {Post : Tables → Env → Array Value → State → Outcome → State → Prop} (hpost : ∀ tb e args s v u, (limb_1_1.after args s (.returned v) u = true ∧ limb_1_2.after args s (.returned v) u = true ∧ True) → FrameEnd s (.returned v) u (Jvm.fieldLocs frame_1_writes args s ++ Jvm.arrayLocs frame_1_arrays args s ++ Jvm.staticLocs frame_1_statics s) 0 0 → Post tb e args s (.returned v) u) :
    ArmFor flags0 classFile x code maxLocals ret World_1 tables_1 room_1 Calls_1 rest_1 Pre_1 Post := by
  intro l hfl _ _ p e ha hc hk s m args below hf hA hF happ hP
  obtain ⟨hcalls, hrest, hpre⟩ := hP
  obtain ⟨-, -, -, hnamed, -, -, -, hat⟩ := (Spec.applies_iff hf).mp happ
  obtain ⟨hg, hn⟩ := and_e (Cond.before_iff.mp (show (Jvm.Cond.and given_1 narrow_1).before args s = true from hpre))
  obtain ⟨g0a, g0b⟩ := and_e hg
  obtain ⟨g1a, g1b⟩ := and_e g0b
  obtain ⟨w0, w1, rfl⟩ : ∃ w0 w1 : Value, args = #[w0, w1] := by
    have hs : args.size = 2 := by simpa [Cond.value, given_1] using g0a
    obtain ⟨L⟩ := args
    match L, hs with
    | [w0, w1], _ => exact ⟨w0, w1, rfl⟩
  have hw := fun d (hd : d ∈ tables_1) => atoms_spec (ws := Jvm.Cond.code x code maxLocals ret :: tables_1) hat d (List.mem_cons_of_mem _ hd)
  have hfit : Fit s := fun {y c} hc i hi => by
    obtain ⟨ha, rfl⟩ := Array.getElem?_eq_some_iff.mp hc
    have q := List.all_eq_true.mp ((Array.all_eq_true_iff_forall_mem.mp hF) _ (Array.getElem_mem ha)) i (List.mem_range.mpr hi)
    simpa [Array.getElem?_eq_getElem hi] using q
  obtain ⟨i0, ei0⟩ := is_v g1a
  obtain rfl : w0 = (.int i0) := Option.some.inj ei0
  obtain ⟨i1, ei1⟩ := is_v g1b
  obtain rfl : w1 = (.int i1) := Option.some.inj ei1
  obtain ⟨hn1a, hn1b⟩ := and_e hn
  obtain ⟨hn2a, hn2b⟩ := and_e hn1b
  obtain ⟨hn3a, hn3b⟩ := and_e hn2b
  obtain ⟨hn4a, hn4b⟩ := and_e hn3b
  obtain ⟨hn5a, hn5b⟩ := and_e hn4b
  obtain ⟨hn6a, hn6b⟩ := and_e hn5b
  obtain ⟨hn7a, hn7b⟩ := and_e hn6b
  obtain ⟨hn8a, hn8b⟩ := and_e hn7b
  obtain ⟨hn9a, hn9b⟩ := and_e hn8b
  obtain ⟨hn10a, hn10b⟩ := and_e hn9b
  obtain ⟨hn11a, hn11b⟩ := and_e hn10b
  obtain ⟨a_STRONG_DENIAL, v_a_STRONG_DENIAL⟩ := exa_v hn1a
  have S_STRONG_DENIAL := Sta.start v_a_STRONG_DENIAL (Or.inr ⟨(own_w hw 2 rfl), (own_w hw 5 rfl)⟩)
  have E_STRONG_DENIAL := Exa.start v_a_STRONG_DENIAL hn1a
  have F_STRONG_DENIAL_permission := Fld.start ((fld_at v_a_STRONG_DENIAL).symm.trans (own_eqI hn2a))
  have F_STRONG_DENIAL_strong := Fld.start ((fld_at v_a_STRONG_DENIAL).symm.trans (own_eqI hn3a))
  obtain ⟨a_WEAK_DENIAL, v_a_WEAK_DENIAL⟩ := exa_v hn4a
  have S_WEAK_DENIAL := Sta.start v_a_WEAK_DENIAL (Or.inr ⟨(own_w hw 2 rfl), (own_w hw 21 rfl)⟩)
  have E_WEAK_DENIAL := Exa.start v_a_WEAK_DENIAL hn4a
  have F_WEAK_DENIAL_permission := Fld.start ((fld_at v_a_WEAK_DENIAL).symm.trans (own_eqI hn5a))
  have F_WEAK_DENIAL_strong := Fld.start ((fld_at v_a_WEAK_DENIAL).symm.trans (own_eqI hn6a))
  obtain ⟨a_STRONG_PERMISSION, v_a_STRONG_PERMISSION⟩ := exa_v hn7a
  have S_STRONG_PERMISSION := Sta.start v_a_STRONG_PERMISSION (Or.inr ⟨(own_w hw 2 rfl), (own_w hw 23 rfl)⟩)
  have E_STRONG_PERMISSION := Exa.start v_a_STRONG_PERMISSION hn7a
  have F_STRONG_PERMISSION_permission := Fld.start ((fld_at v_a_STRONG_PERMISSION).symm.trans (own_eqI hn8a))
  have F_STRONG_PERMISSION_strong := Fld.start ((fld_at v_a_STRONG_PERMISSION).symm.trans (own_eqI hn9a))
  obtain ⟨a_WEAK_PERMISSION, v_a_WEAK_PERMISSION⟩ := exa_v hn10a
  have S_WEAK_PERMISSION := Sta.start v_a_WEAK_PERMISSION (Or.inr ⟨(own_w hw 2 rfl), (own_w hw 25 rfl)⟩)
  have E_WEAK_PERMISSION := Exa.start v_a_WEAK_PERMISSION hn10a
  have F_WEAK_PERMISSION_permission := Fld.start ((fld_at v_a_WEAK_PERMISSION).symm.trans (own_eqI hn11a))
  have F_WEAK_PERMISSION_strong := Fld.start ((fld_at v_a_WEAK_PERMISSION).symm.trans (own_eqI hn11b))
  obtain ⟨n, o, h1, h2, h3, _, L, rfl, ⟨rfl, N⟩, hq⟩ := rm_law l s _ hw tables_1 i0 i1 a_STRONG_DENIAL a_WEAK_DENIAL a_STRONG_PERMISSION a_WEAK_PERMISSION s.heap s.heap.size (Old.start s) ⟨S_STRONG_DENIAL, E_STRONG_DENIAL, F_STRONG_DENIAL_permission, F_STRONG_DENIAL_strong, S_WEAK_DENIAL, E_WEAK_DENIAL, F_WEAK_DENIAL_permission, F_WEAK_DENIAL_strong, S_STRONG_PERMISSION, E_STRONG_PERMISSION, F_STRONG_PERMISSION_permission, F_STRONG_PERMISSION_strong, S_WEAK_PERMISSION, E_WEAK_PERMISSION, F_WEAK_PERMISSION_permission, F_WEAK_PERMISSION_strong⟩  p e ha hc hk s m _ below hf ((Spec.applies_iff_loose hf).mp happ).1 ⟨rfl, State.Warmed39.refl s, rfl⟩ trivial
  refine ⟨n, _, h1, h2, h3, hpost _ _ _ _ _ _ ⟨Cond.after_iff.mpr rfl, Cond.after_iff.mpr (eq_i res_at (Term.int_eval (1)) rfl), trivial⟩ ⟨hq.1, hq.2.1, (hq.2.2.sift fun y hy => Or.inr (N y hy)).mono (by decide) (by decide)⟩⟩
theorem main_1_1 : Claimed_1_1 := comes_1 fun _ _ _ _ _ _ h hF => ⟨h.1, hF⟩
theorem main_1_2 : Claimed_1_2 := comes_1 fun _ _ _ _ _ _ h hF => ⟨h.2.1, hF⟩
end Jvm.Pilot.@@N@@
namespace Jvm.Pilot.@@N@@
open Jvm Jvm.ClassFile Sem Op Lib Jvm.Free Jvm.Stand Jvm.Pilot.@@N@@.Jvm.D
/-! MADE BY PROGRAM (witnessworld.py) out of the Statement's table words and the real class files: 12 classes; the members and pool entries that the words name. The judged class is class 1, her method 1. -/
namespace start1
open Jvm.ClassFile
def u (s : String) : CpInfo := .utf8 (stringToUtf16 s)
/-- a pool by its gaps: so many unusable entries, then the entry; so many at the end -/
def gap : Nat → List CpInfo → List CpInfo
  | 0, r => r
  | n + 1, r => .unusable :: gap n r
def poolList (es : List (Nat × CpInfo)) (last : Nat) : List CpInfo := es.foldr (fun e r => gap e.1 (e.2 :: r)) (gap last [])
def pool (es : List (Nat × CpInfo)) (last : Nat) : Array CpInfo := ⟨poolList es last⟩
def fileOf (pool : Array CpInfo) (this : Nat) (attrs : Array Attribute := #[]) (ms : Array MethodInfo := #[]) (fl : Nat := 33) (sup : Nat := 0) (ifs : Array Nat := #[]) (fds : Array FieldInfo := #[]) : ClassFile where
  minorVersion := 0
  majorVersion := 65
  constantPool := pool
  accessFlags := fl
  thisClass := this
  superClass := sup
  interfaces := ifs
  fields := fds
  methods := ms
  attributes := attrs
def plain (name : String) (sup : Option ClassId) : Class where
  name := name
  kind := .ordinary
  loader := none
  accessFlags := 33
  super := sup
  interfaces := #[]
  cf := none
  fields := #[]
  methods := #[]
  instanceTypes := #[]
  staticTypes := #[]
  resolved := #[]
  callSites := []
  init := .initialized
  statics := none
  mirror := none

def pool0 : Array CpInfo := pool [(5, u "<init>"), (0, u "()V"), (1, .class_ 10), (1, u "java/lang/Object")] 113

def k0m0 : Method := { name := "<init>", desc := "()V", sig := { parameters := [], returnType := none }, accessFlags := 1, code := none }
/-- java/lang/Object -/
def k0 : Class := { plain "java/lang/Object" none with
  accessFlags := 33
  interfaces := #[]
  cf := some (fileOf pool0 8 #[] #[{ accessFlags := 1, nameIndex := 5, descriptorIndex := 6, attributes := #[] }] 33 0 #[] #[])
  fields := #[]
  methods := #[k0m0]
  instanceTypes := #[]
  staticTypes := #[]
  resolved := Array.replicate 124 none
  statics := none }

def pool1 : Array CpInfo := pool [(2, .class_ 4), (1, u "java/lang/Object"), (0, u "<init>"), (0, u "()V"), (0, .methodref 8 9), (0, .class_ 10), (0, .nameAndType 11 12), (0, u "com/example/gate3/gate3/model/Right"), (0, u "of"), (0, u "(ZZ)Lcom/example/gate3/gate3/model/Right;"), (0, .methodref 8 14), (0, .nameAndType 15 16), (0, u "isPermission"), (0, u "()Z"), (0, .methodref 8 18), (0, .nameAndType 19 16), (0, u "isStrong"), (0, .class_ 21), (0, u "com/example/gate3/gate3/model/RightOfPinLaw"), (2, u "law"), (0, u "(II)Z")] 3

def k1m0 : Method := { name := "<init>", desc := "()V", sig := { parameters := [], returnType := none }, accessFlags := 1, code := none }
def k1c1 : Code := { maxStack := 2, maxLocals := 5, code := code, exceptionTable := #[], attributes := #[] }
def k1m1 : Method := { name := "law", desc := "(II)Z", sig := { parameters := [.int, .int], returnType := some .boolean }, accessFlags := 9, code := some k1c1 }
/-- com/example/gate3/gate3/model/RightOfPinLaw -/
def k1 : Class := { plain "com/example/gate3/gate3/model/RightOfPinLaw" (some 0) with
  accessFlags := 49
  interfaces := #[]
  cf := some (fileOf pool1 20 #[] #[{ accessFlags := 1, nameIndex := 5, descriptorIndex := 6, attributes := #[] }, { accessFlags := 9, nameIndex := 24, descriptorIndex := 25, attributes := #[] }] 49 2 #[] #[])
  fields := #[]
  methods := #[k1m0, k1m1]
  instanceTypes := #[]
  staticTypes := #[]
  resolved := Array.replicate 29 none
  statics := none }

def pool2 : Array CpInfo := pool [(1, .class_ 2), (0, u "java/lang/constant/Constable"), (0, .class_ 4), (0, u "java/lang/Object")] 6

/-- java/lang/constant/Constable -/
def k2 : Class := { plain "java/lang/constant/Constable" (some 0) with
  accessFlags := 1537
  interfaces := #[]
  cf := some (fileOf pool2 1 #[] #[] 1537 3 #[] #[])
  fields := #[]
  methods := #[]
  instanceTypes := #[]
  staticTypes := #[]
  resolved := Array.replicate 11 none
  statics := none }

def pool3 : Array CpInfo := pool [(1, .class_ 2), (0, u "java/lang/Comparable"), (0, .class_ 4), (0, u "java/lang/Object")] 7

/-- java/lang/Comparable -/
def k3 : Class := { plain "java/lang/Comparable" (some 0) with
  accessFlags := 1537
  interfaces := #[]
  cf := some (fileOf pool3 1 #[] #[] 1537 3 #[] #[])
  fields := #[]
  methods := #[]
  instanceTypes := #[]
  staticTypes := #[]
  resolved := Array.replicate 12 none
  statics := none }

def pool4 : Array CpInfo := pool [(1, .class_ 2), (0, u "java/io/Serializable"), (0, .class_ 4), (0, u "java/lang/Object")] 2

/-- java/io/Serializable -/
def k4 : Class := { plain "java/io/Serializable" (some 0) with
  accessFlags := 1537
  interfaces := #[]
  cf := some (fileOf pool4 1 #[] #[] 1537 3 #[] #[])
  fields := #[]
  methods := #[]
  instanceTypes := #[]
  staticTypes := #[]
  resolved := Array.replicate 7 none
  statics := none }

def pool5 : Array CpInfo := pool [(2, .class_ 4), (1, u "java/lang/Enum"), (0, u "name"), (0, u "Ljava/lang/String;"), (2, u "ordinal"), (0, u "I"), (1, .class_ 14), (1, u "java/lang/Object"), (4, u "hash"), (86, .class_ 108), (1, u "java/lang/Enum$EnumDesc"), (2, .class_ 112), (0, u "java/lang/constant/Constable"), (0, .class_ 114), (0, u "java/lang/Comparable"), (0, .class_ 116), (0, u "java/io/Serializable")] 87

/-- java/lang/Enum -/
def k5 : Class := { plain "java/lang/Enum" (some 0) with
  accessFlags := 1057
  interfaces := #[2, 3, 4]
  cf := some (fileOf pool5 2 #[.nestMembers #[106]] #[] 1057 12 #[111, 113, 115] #[{ accessFlags := 18, nameIndex := 5, descriptorIndex := 6, attributes := #[] }, { accessFlags := 18, nameIndex := 9, descriptorIndex := 10, attributes := #[] }, { accessFlags := 2, nameIndex := 19, descriptorIndex := 10, attributes := #[] }])
  fields := #[{ name := "name", type := (.object "java/lang/String"), accessFlags := 18, slot := 0, constantValue := 0 }, { name := "ordinal", type := .int, accessFlags := 18, slot := 1, constantValue := 0 }, { name := "hash", type := .int, accessFlags := 2, slot := 2, constantValue := 0 }]
  methods := #[]
  instanceTypes := #[(.object "java/lang/String"), .int, .int]
  staticTypes := #[]
  resolved := Array.replicate 204 none
  statics := none }

def pool6 : Array CpInfo := pool [(1, .class_ 2), (0, u "com/example/gate3/gate3/model/Right"), (0, .fieldref 1 4), (0, .nameAndType 5 6), (0, u "STRONG_PERMISSION"), (0, u "Lcom/example/gate3/gate3/model/Right;"), (0, .fieldref 1 8), (0, .nameAndType 9 6), (0, u "STRONG_DENIAL"), (0, .fieldref 1 11), (0, .nameAndType 12 6), (0, u "WEAK_DENIAL"), (0, .fieldref 1 14), (0, .nameAndType 15 6), (0, u "WEAK_PERMISSION"), (2, u "$VALUES"), (0, u "[Lcom/example/gate3/gate3/model/Right;"), (6, .class_ 28), (1, u "java/lang/Enum"), (6, .fieldref 1 36), (0, .nameAndType 37 38), (0, u "permission"), (0, u "Z"), (0, .fieldref 1 40), (0, .nameAndType 41 38), (0, u "strong"), (33, u "of"), (0, u "(ZZ)Lcom/example/gate3/gate3/model/Right;"), (1, u "isPermission"), (0, u "()Z"), (0, u "isStrong")] 26

def k6c0 : Code := { maxStack := 1, maxLocals := 3, code := prog_122_method_4_code, exceptionTable := #[], attributes := #[] }
def k6m0 : Method := { name := "of", desc := "(ZZ)Lcom/example/gate3/gate3/model/Right;", sig := { parameters := [.boolean, .boolean], returnType := some (.object "com/example/gate3/gate3/model/Right") }, accessFlags := 9, code := some k6c0 }
def k6c1 : Code := { maxStack := 1, maxLocals := 1, code := prog_122_method_5_code, exceptionTable := #[], attributes := #[] }
def k6m1 : Method := { name := "isPermission", desc := "()Z", sig := { parameters := [], returnType := some .boolean }, accessFlags := 1, code := some k6c1 }
def k6c2 : Code := { maxStack := 1, maxLocals := 1, code := prog_122_method_6_code, exceptionTable := #[], attributes := #[] }
def k6m2 : Method := { name := "isStrong", desc := "()Z", sig := { parameters := [], returnType := some .boolean }, accessFlags := 1, code := some k6c2 }
/-- com/example/gate3/gate3/model/Right -/
def k6 : Class := { plain "com/example/gate3/gate3/model/Right" (some 5) with
  accessFlags := 16433
  interfaces := #[]
  cf := some (fileOf pool6 1 #[] #[{ accessFlags := 9, nameIndex := 75, descriptorIndex := 76, attributes := #[] }, { accessFlags := 1, nameIndex := 78, descriptorIndex := 79, attributes := #[] }, { accessFlags := 1, nameIndex := 80, descriptorIndex := 79, attributes := #[] }] 16433 26 #[] #[{ accessFlags := 16409, nameIndex := 5, descriptorIndex := 6, attributes := #[] }, { accessFlags := 16409, nameIndex := 9, descriptorIndex := 6, attributes := #[] }, { accessFlags := 16409, nameIndex := 12, descriptorIndex := 6, attributes := #[] }, { accessFlags := 16409, nameIndex := 15, descriptorIndex := 6, attributes := #[] }, { accessFlags := 18, nameIndex := 37, descriptorIndex := 38, attributes := #[] }, { accessFlags := 18, nameIndex := 41, descriptorIndex := 38, attributes := #[] }, { accessFlags := 4122, nameIndex := 18, descriptorIndex := 19, attributes := #[] }])
  fields := #[{ name := "STRONG_PERMISSION", type := (.object "com/example/gate3/gate3/model/Right"), accessFlags := 16409, slot := 0, constantValue := 0 }, { name := "STRONG_DENIAL", type := (.object "com/example/gate3/gate3/model/Right"), accessFlags := 16409, slot := 1, constantValue := 0 }, { name := "WEAK_DENIAL", type := (.object "com/example/gate3/gate3/model/Right"), accessFlags := 16409, slot := 2, constantValue := 0 }, { name := "WEAK_PERMISSION", type := (.object "com/example/gate3/gate3/model/Right"), accessFlags := 16409, slot := 3, constantValue := 0 }, { name := "permission", type := .boolean, accessFlags := 18, slot := 3, constantValue := 0 }, { name := "strong", type := .boolean, accessFlags := 18, slot := 4, constantValue := 0 }, { name := "$VALUES", type := (.array (.object "com/example/gate3/gate3/model/Right")), accessFlags := 4122, slot := 4, constantValue := 0 }]
  methods := #[k6m0, k6m1, k6m2]
  instanceTypes := #[(.object "java/lang/String"), .int, .int, .boolean, .boolean]
  staticTypes := #[(.object "com/example/gate3/gate3/model/Right"), (.object "com/example/gate3/gate3/model/Right"), (.object "com/example/gate3/gate3/model/Right"), (.object "com/example/gate3/gate3/model/Right"), (.array (.object "com/example/gate3/gate3/model/Right"))]
  resolved := Array.replicate 107 none
  statics := some 0 }

def pool7 : Array CpInfo := pool [(1, u "java/lang/Cloneable"), (0, .class_ 1), (0, u "java/lang/Object"), (0, .class_ 3)] 3

/-- java/lang/Cloneable -/
def k7 : Class := { plain "java/lang/Cloneable" (some 0) with
  accessFlags := 1537
  interfaces := #[]
  cf := some (fileOf pool7 2 #[] #[] 1537 4 #[] #[])
  fields := #[]
  methods := #[]
  instanceTypes := #[]
  staticTypes := #[]
  resolved := Array.replicate 8 none
  statics := none }

/-- the primitive byte -/
def k8 : Class := { plain "byte" none with kind := .primitive 'B', accessFlags := 0x411 }
/-- [B -/
def k9 : Class := { plain "[B" (some 0) with kind := .array 8 .byte, interfaces := #[7, 4], accessFlags := 1041 }

/-- the primitive int -/
def k10 : Class := { plain "int" none with kind := .primitive 'I', accessFlags := 0x411 }
/-- [I -/
def k11 : Class := { plain "[I" (some 0) with kind := .array 10 .int, interfaces := #[7, 4], accessFlags := 1041 }

def heap : Heap := #[{ cls := 6, slots := #[.ref 3, .ref 1, .ref 2, .ref 4, .null], vm := .statics 6 },
  { cls := 6, slots := #[.null, .int 0, .int 0, .int 0, .int 1], vm := .none },
  { cls := 6, slots := #[.null, .int 0, .int 0, .int 0, .int 0], vm := .none },
  { cls := 6, slots := #[.null, .int 0, .int 0, .int 1, .int 1], vm := .none },
  { cls := 6, slots := #[.null, .int 0, .int 0, .int 1, .int 0], vm := .none }]
def classes : Array Class := #[k0, k1, k2, k3, k4, k5, k6, k7, k8, k9, k10, k11]
def interned : List (Array UInt16 × Addr) := []
def slotsUsed : Nat := 25
def theMethod : MethodId := ⟨1, 1⟩
def args0 : Array Value := #[.int 5, .int 3]
def aboutOver (below : List Frame) : State where
  vm := { classes := classes, interned := interned.toArray }
  heap := heap
  slotsUsed := slotsUsed
  threads := #[{ frames := .invoking theMethod args0 :: below }]
def below0 : List Frame := [.native { method := ⟨0, 0⟩, args := #[] }]
def about1 : State := aboutOver below0
def p0 : Program := .bare "" "" ""
def e0 : Env := launch0.env 0 0 0
theorem w_frames : about1.frames = Frame.invoking theMethod args0 :: below0 := rfl
set_option maxRecDepth 65536 in
theorem w_args : argsFit about1.vm theMethod args0 = true := by decide +kernel
set_option maxRecDepth 65536 in
theorem w_heap : heapFits about1 = true := by decide +kernel
set_option maxRecDepth 65536 in
theorem w_runnable : about1.curStatus? = some .runnable := by decide +kernel
set_option maxRecDepth 65536 in
theorem w_alone : about1.alone = true := by decide +kernel
set_option maxRecDepth 65536 in
theorem w_named : about1.methodNamed? x = some theMethod := by decide +kernel
set_option maxRecDepth 65536 in
theorem w_hears : about1.hears theMethod below0 = true := by decide +kernel
set_option maxRecDepth 65536 in
theorem w_ripe : about1.ripe theMethod args0 below0 = true := by decide +kernel
theorem w_running : about1.status = .running := rfl
set_option maxRecDepth 65536 in
theorem w_room : about1.hasRoom e0.platform room_1 = true :=
  launch0.hasRoom_least _ room_1 (by decide +kernel) (by decide +kernel) (by decide +kernel) (by decide +kernel) (by decide +kernel) (by decide +kernel)
theorem allAtoms_all (ts : List Jvm.Cond) (a : Array Jvm.Value) (st : Jvm.State) : (allAtoms ts).before a st = ts.all (fun c => c.before a st) := by
  induction ts with
  | nil => rfl
  | cons c t ih =>
    show (Jvm.Cond.and c (allAtoms t)).before a st = _
    rw [Jvm.Cond.before_and, ih, List.all_cons]
def words1 : List Jvm.Cond := Jvm.Cond.code x code maxLocals ret :: tables_1
/-- a 'code' word, met by the world's own term for the bytes: nothing is compared byte by byte -/
theorem code_word {y : MethodName} {bytes : ByteArray} {mx : Nat} {rt : Option FieldType} {a : Array Value} {s : State} {m : MethodId} {meth : Method} {c : Code} (h1 : s.methodNamed? y = some m) (h2 : s.vm.method? m = some meth) (h3 : meth.code = some c) (h4 : c.code = bytes)
    (h5 : (c.maxLocals == mx && c.exceptionTable.isEmpty && decide (c.maxStack ≤ mostOperands) && decide (meth.sig.returnType = rt) && !meth.locks && decide (parseMethodDescriptor y.desc = some meth.sig)) = true) : (Jvm.Cond.code y bytes mx rt).before a s = true := by
  simp only [Bool.and_eq_true, beq_iff_eq, Bool.not_eq_true', decide_eq_true_eq] at h5
  obtain ⟨⟨⟨⟨⟨g1, g2⟩, g3⟩, g4⟩, g5⟩, g6⟩ := h5
  simp [Cond.before, Cond.holds, Cond.value, h1, h2, h3, h4, g1, g2, g3, g4, g5, g6]
def isCode : Jvm.Cond → Bool
  | .code _ _ _ _ => true
  | _ => false
theorem all_split {L : List Jvm.Cond} {P : Jvm.Cond → Bool} (h1 : L.all (fun c => isCode c || P c) = true) (h2 : ∀ c ∈ L.filter isCode, P c = true) : L.all P = true := by
  refine List.all_eq_true.mpr fun c hc => ?_
  have h := List.all_eq_true.mp h1 c hc
  rcases Bool.eq_false_or_eq_true (isCode c) with hi | hi
  · exact h2 c (List.mem_filter.mpr ⟨hc, hi⟩)
  · simpa [hi] using h
set_option maxRecDepth 65536 in
theorem w_c0 : (Jvm.Cond.code x code maxLocals ret).before args0 about1 = true := code_word (m := ⟨1, 1⟩) (meth := k1m1) (c := k1c1) (by decide +kernel) rfl rfl rfl (by decide +kernel)
set_option maxRecDepth 65536 in
theorem w_c1 : (Jvm.Cond.code ({ cls := "com/example/gate3/gate3/model/Right", name := "of", desc := "(ZZ)Lcom/example/gate3/gate3/model/Right;" } : Jvm.MethodName) prog_122_method_4_code (3 : Nat) (Option.some (Jvm.ClassFile.FieldType.object "com/example/gate3/gate3/model/Right"))).before args0 about1 = true := code_word (m := ⟨6, 0⟩) (meth := k6m0) (c := k6c0) (by decide +kernel) rfl rfl rfl (by decide +kernel)
set_option maxRecDepth 65536 in
theorem w_c2 : (Jvm.Cond.code ({ cls := "com/example/gate3/gate3/model/Right", name := "isPermission", desc := "()Z" } : Jvm.MethodName) prog_122_method_5_code (1 : Nat) (Option.some Jvm.ClassFile.FieldType.boolean)).before args0 about1 = true := code_word (m := ⟨6, 1⟩) (meth := k6m1) (c := k6c1) (by decide +kernel) rfl rfl rfl (by decide +kernel)
set_option maxRecDepth 65536 in
theorem w_c3 : (Jvm.Cond.code ({ cls := "com/example/gate3/gate3/model/Right", name := "isStrong", desc := "()Z" } : Jvm.MethodName) prog_122_method_6_code (1 : Nat) (Option.some Jvm.ClassFile.FieldType.boolean)).before args0 about1 = true := code_word (m := ⟨6, 2⟩) (meth := k6m2) (c := k6c2) (by decide +kernel) rfl rfl rfl (by decide +kernel)
def codes1 : List Jvm.Cond := [Jvm.Cond.code x code maxLocals ret, Jvm.Cond.code ({ cls := "com/example/gate3/gate3/model/Right", name := "of", desc := "(ZZ)Lcom/example/gate3/gate3/model/Right;" } : Jvm.MethodName) prog_122_method_4_code (3 : Nat) (Option.some (Jvm.ClassFile.FieldType.object "com/example/gate3/gate3/model/Right")), Jvm.Cond.code ({ cls := "com/example/gate3/gate3/model/Right", name := "isPermission", desc := "()Z" } : Jvm.MethodName) prog_122_method_5_code (1 : Nat) (Option.some Jvm.ClassFile.FieldType.boolean), Jvm.Cond.code ({ cls := "com/example/gate3/gate3/model/Right", name := "isStrong", desc := "()Z" } : Jvm.MethodName) prog_122_method_6_code (1 : Nat) (Option.some Jvm.ClassFile.FieldType.boolean)]
set_option maxRecDepth 65536 in
theorem codes_eq : words1.filter isCode = codes1 := rfl
theorem w_codes : ∀ c ∈ words1.filter isCode, c.before args0 about1 = true := by
  rw [codes_eq]
  intro c hc
  simp only [codes1, List.mem_cons, List.not_mem_nil, or_false] at hc
  rcases hc with rfl | rfl | rfl | rfl
  · exact w_c0
  · exact w_c1
  · exact w_c2
  · exact w_c3
set_option maxRecDepth 65536 in
theorem w_t1 : (words1.take 24).all (fun c => isCode c || c.before args0 about1) = true := by decide +kernel
set_option maxRecDepth 65536 in
theorem w_t2 : (words1.drop 24).all (fun c => isCode c || c.before args0 about1) = true := by decide +kernel
theorem w_tables : (allAtoms (Jvm.Cond.code x code maxLocals ret :: tables_1)).before args0 about1 = true := by
  rw [allAtoms_all]
  show words1.all (fun c => c.before args0 about1) = true
  refine all_split ?_ w_codes
  rw [← List.take_append_drop 24 words1, List.all_append, w_t1, w_t2]
  rfl
set_option maxRecDepth 65536 in
theorem w_case : (Jvm.Cond.and given_1 narrow_1).before args0 about1 = true := by decide +kernel
theorem w_applies : (headSpec (Jvm.Cond.code x code maxLocals ret :: tables_1) room_1).applies x e0.platform about1 = true :=
  (Spec.applies_iff w_frames).mpr ⟨w_running, w_runnable, w_alone, w_named, w_hears, w_ripe, w_room, w_tables⟩
theorem atStart : AtStart classFile x code maxLocals ret World_1 tables_1 room_1 Calls_1 rest_1 Pre_1 launch0 p0 e0 about1 theMethod args0 below0 :=
  ⟨lists_1, trivial, launch0.admits_env _ _ _, launch0.least_env, fairChoices_fair.cas, fairChoices_fair.clock, w_frames, w_args, w_heap, w_applies, trivial, trivial, w_case⟩
end start1
theorem witness_1 : WitnessClaimed_1 := ⟨start1.p0, start1.e0, start1.about1, start1.theMethod, start1.args0, start1.below0, start1.atStart⟩
end Jvm.Pilot.@@N@@
