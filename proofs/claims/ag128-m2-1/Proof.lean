import JvmDerived
import JvmDerived.Pilot.@@N@@Statement
import JvmDerived.Pilot.@@N@@Code
set_option linter.unusedVariables false
set_option linter.unusedSimpArgs false
namespace Jvm.Pilot.@@N@@
open Jvm Jvm.ClassFile Sem Op Lib Jvm.Free Jvm.Stand Jvm.LawKit Jvm.RoadKit Bundle Jvm.Pilot.@@N@@.Jvm.D
abbrev own_At (p : Program) (e : Env) (below : List Frame) (m : MethodId) (T : State) (pc : Nat) (ls : Array Slot) (st : List Value) (t : State) : Prop := Steps p.tables e below (T.setTop (mkF m pc ls st)) t
abbrev own_En (p : Program) (e : Env) (below : List Frame) (m : MethodId) (T : State) (a : Array Value) (n : Nat) (t : State) : Prop := Steps p.tables e below (T.setTop (entryFrame m a n)) t
theorem own_w {a0 : Array Value} {Z : State} (hw : ∀ d ∈ tables_1, d.before a0 Z = true) (i : Nat) {d : Jvm.Cond} (h : tables_1[i]? = some d) : d.before a0 Z = true := hw d (List.mem_of_getElem? h)
theorem own_eqI {t : Term} {k : Int32} {args : Array Value} {s : State} (h : (Jvm.Cond.eq t (.int k)).value args s none s [] = some true) : t.eval args s none [] s = some (.int k) := by
  have e : (Term.int k).eval args s none [] s = some (.int k) := rfl
  simp only [Cond.value, e] at h
  cases ht : t.eval args s none [] s with
  | none => simp [ht] at h
  | some x => cases x <;> simp [ht] at h ⊢; exact h
theorem own_neI {t : Term} {k z : Int32} {args : Array Value} {s : State} (e : t.eval args s none [] s = some (.int z)) (h : (Jvm.Cond.not (Jvm.Cond.eq t (.int k))).value args s none s [] = some true) : ¬ (z = k) := by
  have q := not_v h
  have e2 : (Term.int k).eval args s none [] s = some (.int k) := rfl
  simp only [Cond.value, e, e2, Bool.not_true, Option.some.injEq, decide_eq_false_iff_not] at q
  exact q
theorem own_neR {t u : Term} {a b : Addr} {args : Array Value} {s : State} (ea : t.eval args s none [] s = some (.ref a)) (eb : u.eval args s none [] s = some (.ref b)) (h : (Jvm.Cond.not (Jvm.Cond.eq t u)).value args s none s [] = some true) : ¬ (a = b) := by
  have q := not_v h
  rw [eq_R ea eb rfl rfl] at q
  intro e
  rw [e] at q
  simp at q
theorem own_eqJ {t : Term} {k : Int64} {args : Array Value} {s : State} (h : (Jvm.Cond.eq t (.long k)).value args s none s [] = some true) : t.eval args s none [] s = some (.long k) := by
  have e : (Term.long k).eval args s none [] s = some (.long k) := rfl
  simp only [Cond.value, e] at h
  cases ht : t.eval args s none [] s with
  | none => simp [ht] at h
  | some x => cases x <;> simp [ht] at h ⊢; exact h
theorem own_len {t : Term} {n : Int32} {a : Addr} {cl : Cell} {ty : FieldType} {args : Array Value} {s : State} (ev : t.eval args s none [] s = some (.ref a)) (A : Arr s s.heap a cl ty) (h : (Jvm.Cond.eq (.length t) (.int n)).value args s none s [] = some true) : cl.slots.size < 2 ^ 31 ∧ cl.slots.size.toInt32 = n := by
  have q := own_eqI h
  have hA := A.fin (Vm.Alike.refl _)
  simp only [Term.eval, ev, hA, Option.bind_eq_bind, Option.bind_some] at q
  split at q
  · rename_i hl
    exact ⟨hl, Value.int.inj (Option.some.inj q)⟩
  · cases q
theorem own_elem {t u : Term} {j : Int32} {a : Addr} {v : Value} {cl : Cell} {ty : FieldType} {args : Array Value} {s : State} (ev : t.eval args s none [] s = some (.ref a)) (A : Arr s s.heap a cl ty) (h : (Term.elem t (.int j)).eval args s none [] s = some v) (i : Nat) (hi : j.toNatClampNeg = i) : cl.slots[i]? = some v := by
  have q := (elem_in h ev (rfl : (Term.int j).eval args s none [] s = some (.int j)) A.1).2
  rw [hi] at q; exact q
/-- an array as it stood at the start, that may be cloned -/
def own_Cln (Z : State) (h : Heap) (a : Addr) (ty : FieldType) (n : Int32) (vs : List Value) (d : Value) : Prop := ∃ c : Cell, Arr Z h a c ty ∧ FitC Z c ∧ c.slots.size = n.toNatClampNeg ∧ ¬ n < 0 ∧ Has c vs d ∧ ∀ i, i < c.slots.size → fits ty (vs.getD i d) = true
theorem own_Cln.ext {Z : State} {h h' : Heap} {a : Addr} {ty : FieldType} {n : Int32} {vs : List Value} {d : Value} (F : own_Cln Z h a ty n vs d) (E : Ext h h') : own_Cln Z h' a ty n vs d := by
  obtain ⟨c, A, r⟩ := F; exact ⟨c, A.ext E, r⟩
theorem own_Cln.start {Z : State} {a : Addr} {cl : Cell} {ty : FieldType} {z : Int32} {vs : List Value} {dv : Value} (hf : Fit Z) (A : Arr Z Z.heap a cl ty) (q : cl.slots.size < 2 ^ 31 ∧ cl.slots.size.toInt32 = z) (hz : ¬ z < 0) (hl : z.toNatClampNeg = vs.length) (H : HasL cl 0 vs) : own_Cln Z Z.heap a ty z vs dv := by
  have S : cl.slots.size = z.toNatClampNeg := by rw [← q.2]; simp only [Int32.toNatClampNeg, len_toInt q.1]; rfl
  have H' : Has cl vs dv := fun j hj => by have := HasL.at (dv := dv) vs 0 H j (by rw [← hl, ← S]; exact hj); rwa [Nat.zero_add] at this
  refine ⟨cl, A, FitC.start hf A, S, hz, H', fun j hj => ?_⟩
  have e1 : (Nat.toInt32 j).toNatClampNeg = j := by simp only [Int32.toNatClampNeg, len_toInt (Nat.lt_trans hj q.1)]; rfl
  exact elem_fits (j := Nat.toInt32 j) hf A (idx_in hj q.1) (by rw [e1]; exact H' j hj)
theorem own_Cln.arv {Z : State} {h : Heap} {a : Addr} {ty : FieldType} {n : Int32} {vs : List Value} {d : Value} (F : own_Cln Z h a ty n vs d) : ∃ k, Arv Z h a k ty n vs d := by
  obtain ⟨c, A, -, r⟩ := F; exact ⟨c.cls, c, A, rfl, r⟩
theorem own_eqR {t u : Term} {b : Addr} {args : Array Value} {s : State} (h : (Jvm.Cond.eq t u).value args s none s [] = some true) (e : u.eval args s none [] s = some (.ref b)) : t.eval args s none [] s = some (.ref b) := by
  simp only [Cond.value, e] at h
  cases ht : t.eval args s none [] s with
  | none => simp [ht] at h
  | some x => cases x <;> simp [ht] at h ⊢; exact h
def EV (Z : State) (a_FAILED : Addr) : Prop := Sta Z Z.heap "com/example/attenuation/attenuation/core/Outcome$Status" "FAILED" "Lcom/example/attenuation/attenuation/core/Outcome$Status;" (.ref a_FAILED) ∧ Exa Z Z.heap a_FAILED "com/example/attenuation/attenuation/core/Outcome$Status"
theorem own_b2 (x : Int32) : x.toInt8.toInt32.toInt8.toInt32 = x.toInt8.toInt32 := by
  have a := c_i2b x
  have b := c_i2b x.toInt8.toInt32
  apply Int32.toInt_inj.mp
  omega
theorem own_narb2 (x : Int32) : nar .byte (x.toInt8.toInt32) = x.toInt8.toInt32 := own_b2 x
theorem ef_ci (m : MethodId) (x0 : Addr) (x1 : Addr) (x2 : Addr)  : entryFrame m #[(.ref x0), (.ref x1), (.ref x2)] 3 = mkF m 0 #[.val (.ref x0), .val (.ref x1), .val (.ref x2)] [] := by first | (simp [entryFrame, mkF, argsToLocals, Value.category]; done) | rfl
theorem d_prog_16_method_1_code_0 : decode prog_16_method_1_code 0 = .ok (.aload_n 0, 1) := by decide +kernel
theorem d_prog_16_method_1_code_1 : decode prog_16_method_1_code 1 = .ok (.invokespecial 1, 3) := by decide +kernel
theorem ef_f1 (m : MethodId) (x0 : Addr)  : entryFrame m #[(.ref x0)] 1 = mkF m 0 #[.val (.ref x0)] [] := by first | (simp [entryFrame, mkF, argsToLocals, Value.category]; done) | rfl
theorem d_jdk_30_method_1_code_0 : decode jdk_30_method_1_code 0 = .ok (.aload_n 0, 1) := by decide +kernel
theorem d_jdk_30_method_1_code_1 : decode jdk_30_method_1_code 1 = .ok (.invokespecial 1, 3) := by decide +kernel
theorem d_jdk_30_method_1_code_4 : decode jdk_30_method_1_code 4 = .ok (.return_, 1) := by decide +kernel
theorem pn_java_lang_Record : plainName "java/lang/Record" = true := by first | (simp [plainName, overriddenIn]; done) | decide +kernel
abbrev own_m0 : MethodName := ⟨"java/lang/Record", "<init>", "()V"⟩
def Q_f1 (Z : State) (q0 : Addr) (a_FAILED : Addr) (h0 : Heap) (n0 : Nat) (v : Option Value) (h : Heap) (L : List Loc) : Prop := v = none ∧ Fr n0 L ∧ h = h0
set_option maxRecDepth 65536 in
set_option maxHeartbeats 40000000 in
theorem rm_f1 (l : Launch) (Z : State) (a0 : Array Value) (hw : ∀ d ∈ tables_1, d.before a0 Z = true) (ws : List Jvm.Cond) (q0 : Addr) (a_FAILED : Addr) (h0 : Heap) (n0 : Nat) (O0 : Old Z n0 h0) (hE : EV Z a_FAILED) :
    MetFree l own_m0 (head1 (Jvm.Cond.code own_m0 jdk_30_method_1_code 1 none :: ws) ({ frames := 1, cells := 0, slots := 0, locals := 12 } : Room)) (fun a U => a = #[(.ref q0)] ∧ Z.Warmed39 U.vm ∧ U.heap = h0) (fun _ _ _ _ _ => True) (fun _ U o U' => ∃ v L, o = .returned v ∧ Q_f1 Z q0 a_FAILED h0 n0 v U'.heap L ∧ FrameEnd U o U' L ({ frames := 1, cells := 0, slots := 0, locals := 12 } : Room).cells ({ frames := 1, cells := 0, slots := 0, locals := 12 } : Room).slots) := by
  refine MetFree.of_bodySF (plainFor_of_name pn_java_lang_Record) hisR ?_
  intro p e s m args below meth c s₁ Bd hml0 hP hK
  obtain ⟨rfl, hZ, hh⟩ := hP
  have hx := Bd.exec
  have hby := Bd.bytes
  have hml : c.maxLocals = 1 := hml0
  have hown : s.vm.findClass "java/lang/Record" = some m.cls := findClass_of_methodNamed Bd.named
  have hnm := (name_of_methodNamed Bd.named Bd.method).1
  have X0 : Stand p l e ({ frames := 1, cells := 0, slots := 0, locals := 12 } : Room) s m #[(.ref q0)] below meth c s₁ [] 0 0 := Stand.of_body Bd
  have e0 : s₁.heap = h0 := by rw [← hh, Bd.state]; rfl
  have N0 := Fr.nil n0
  refine Classical.byContradiction fun hNG => ?_
  have K0 := Keep.refl h0 []
  have k0 : ∀ t, own_At p e below m s₁ 0 #[.val (.ref q0)] [] t → own_En p e below m s₁ #[(.ref q0)] 1 t := fun t k => castTop (ef_f1 m q0 ) k
  obtain ⟨S_FAILED, E_FAILED⟩ := (id hE : EV Z a_FAILED)
  obtain ⟨T1, X1, e1, st1⟩ := initO X0 hx hZ hown (own_w hw 18 rfl) (own_w hw 19 rfl) (own_w hw 20 rfl) e0 (g := (mkF m 1 #[.val (.ref q0)] [(.ref q0)])) rfl (by rw [hml]; rfl) rfl (hb hby d_jdk_30_method_1_code_1) (by decide) (W := 0) (by show 2 * 0 + _ ≤ _; exact Nat.le_of_eq rfl) (by decide)
  have k2 : ∀ t, own_At p e below m T1 4 #[.val (.ref q0)] [] t → own_En p e below m s₁ #[(.ref q0)] 1 t := by
    intro t k
    refine k0 t ?_
    refine XS.aloadN X0.here hx rfl (hb hby d_jdk_30_method_1_code_0) rfl rfl ?_
    show own_At p e below m s₁ 1 #[.val (.ref q0)] [(.ref q0)] t
    refine st1 _ ?_
    show own_At p e below m T1 4 #[.val (.ref q0)] [] t
    exact k
  obtain ⟨fs, hr, hrun, hended, hW, hsame⟩ := X1.leave (v := none) (fun _ => rfl)
  refine hNG ⟨_, _, k2 _ ?_, hrun, hended, _, _, rfl, ?_, ⟨_, rfl⟩, hW, hsame.mono (by decide) (by decide)⟩
  · exact X1.returnOut hx Bd.returns (hb hby d_jdk_30_method_1_code_4) hr
  · show Q_f1 Z q0 a_FAILED h0 n0 _ T1.heap _
    rw [e1]
    exact ⟨rfl, N0, rfl⟩
theorem pd___V : parseMethodDescriptor "()V" = some ⟨[], none⟩ := by decide +kernel
theorem d_prog_16_method_1_code_4 : decode prog_16_method_1_code 4 = .ok (.aload_n 1, 1) := by decide +kernel
theorem own_str {Z : State} {a0 : Array Value} (hw : ∀ d ∈ tables_1, d.before a0 Z = true) : ∀ d ∈ Bundle.stringAtoms, d.before a0 Z = true := fun d hd => hw d ((by decide +kernel : ∀ d ∈ Bundle.stringAtoms, d ∈ tables_1) d hd)
theorem d_prog_16_method_1_code_5 : decode prog_16_method_1_code 5 = .ok (.ldc 7, 2) := by decide +kernel
theorem d_prog_16_method_1_code_7 : decode prog_16_method_1_code 7 = .ok (.invokestatic 9, 3) := by decide +kernel
theorem ef_f2 (m : MethodId) (x0 : Addr) (x1 : Addr)  : entryFrame m #[(.ref x0), (.ref x1)] 2 = mkF m 0 #[.val (.ref x0), .val (.ref x1)] [] := by first | (simp [entryFrame, mkF, argsToLocals, Value.category]; done) | rfl
theorem d_jdk_31_method_11_code_0 : decode jdk_31_method_11_code 0 = .ok (.aload_n 0, 1) := by decide +kernel
theorem d_jdk_31_method_11_code_1 : decode jdk_31_method_11_code 1 = .ok (.ifnonnull 12, 3) := by decide +kernel
theorem d_jdk_31_method_11_code_13 : decode jdk_31_method_11_code 13 = .ok (.aload_n 0, 1) := by decide +kernel
theorem d_jdk_31_method_11_code_14 : decode jdk_31_method_11_code 14 = .ok (.areturn, 1) := by decide +kernel
theorem pn_java_util_Objects : plainName "java/util/Objects" = true := by first | (simp [plainName, overriddenIn]; done) | decide +kernel
abbrev own_m1 : MethodName := ⟨"java/util/Objects", "requireNonNull", "(Ljava/lang/Object;Ljava/lang/String;)Ljava/lang/Object;"⟩
def Q_f2 (Z : State) (q0 : Addr) (q1 : Addr) (a_FAILED : Addr) (h0 : Heap) (n0 : Nat) (v : Option Value) (h : Heap) (L : List Loc) : Prop := v = some (.ref q0) ∧ Fr n0 L ∧ h = h0
set_option maxRecDepth 65536 in
set_option maxHeartbeats 40000000 in
theorem rm_f2 (l : Launch) (Z : State) (a0 : Array Value) (hw : ∀ d ∈ tables_1, d.before a0 Z = true) (ws : List Jvm.Cond) (q0 : Addr) (q1 : Addr) (a_FAILED : Addr) (h0 : Heap) (n0 : Nat) (O0 : Old Z n0 h0) (hE : EV Z a_FAILED) :
    MetFree l own_m1 (head1 (Jvm.Cond.code own_m1 jdk_31_method_11_code 2 (some (.object "java/lang/Object")) :: ws) ({ frames := 0, cells := 0, slots := 0, locals := 0 } : Room)) (fun a U => a = #[(.ref q0), (.ref q1)] ∧ Z.Warmed39 U.vm ∧ U.heap = h0) (fun _ _ _ _ _ => True) (fun _ U o U' => ∃ v L, o = .returned v ∧ Q_f2 Z q0 q1 a_FAILED h0 n0 v U'.heap L ∧ FrameEnd U o U' L ({ frames := 0, cells := 0, slots := 0, locals := 0 } : Room).cells ({ frames := 0, cells := 0, slots := 0, locals := 0 } : Room).slots) := by
  refine MetFree.of_bodySF (plainFor_of_name pn_java_util_Objects) hisR ?_
  intro p e s m args below meth c s₁ Bd hml0 hP hK
  obtain ⟨rfl, hZ, hh⟩ := hP
  have hx := Bd.exec
  have hby := Bd.bytes
  have hml : c.maxLocals = 2 := hml0
  have hown : s.vm.findClass "java/util/Objects" = some m.cls := findClass_of_methodNamed Bd.named
  have hnm := (name_of_methodNamed Bd.named Bd.method).1
  have X0 : Stand p l e ({ frames := 0, cells := 0, slots := 0, locals := 0 } : Room) s m #[(.ref q0), (.ref q1)] below meth c s₁ [] 0 0 := Stand.of_body Bd
  have e0 : s₁.heap = h0 := by rw [← hh, Bd.state]; rfl
  have N0 := Fr.nil n0
  refine Classical.byContradiction fun hNG => ?_
  have K0 := Keep.refl h0 []
  have k0 : ∀ t, own_At p e below m s₁ 0 #[.val (.ref q0), .val (.ref q1)] [] t → own_En p e below m s₁ #[(.ref q0), (.ref q1)] 2 t := fun t k => castTop (ef_f2 m q0 q1 ) k
  obtain ⟨S_FAILED, E_FAILED⟩ := (id hE : EV Z a_FAILED)
  have k1 : ∀ t, own_At p e below m s₁ 14 #[.val (.ref q0), .val (.ref q1)] [(.ref q0)] t → own_En p e below m s₁ #[(.ref q0), (.ref q1)] 2 t := by
    intro t k
    refine k0 t ?_
    refine XS.aloadN X0.here hx rfl (hb hby d_jdk_31_method_11_code_0) rfl rfl ?_
    show own_At p e below m s₁ 1 #[.val (.ref q0), .val (.ref q1)] [(.ref q0)] t
    refine XS.ifnonnullYes X0.here hx rfl (pc0 := 1) (pc' := 13) rfl (hb hby d_jdk_31_method_11_code_1) rfl (by decide) (by decide) ?_
    show own_At p e below m s₁ 13 #[.val (.ref q0), .val (.ref q1)] [] t
    refine XS.aloadN X0.here hx rfl (hb hby d_jdk_31_method_11_code_13) rfl rfl ?_
    show own_At p e below m s₁ 14 #[.val (.ref q0), .val (.ref q1)] [(.ref q0)] t
    exact k
  obtain ⟨fs, hr, hrun, hended, hW, hsame⟩ := X0.leave (v := some (.ref q0)) (fun h => by rw [Bd.returns] at h; cases h)
  refine hNG ⟨_, _, k1 _ ?_, hrun, hended, _, _, rfl, ?_, ⟨_, rfl⟩, hW, hsame.mono (by decide) (by decide)⟩
  · exact retOut X0 hx (t := (.object "java/lang/Object")) Bd.returns rfl (Or.inr (Or.inr (Or.inr (Or.inr ⟨rfl, rfl, rfl⟩)))) (hb hby d_jdk_31_method_11_code_14) hr
  · show Q_f2 Z q0 q1 a_FAILED h0 n0 _ s₁.heap _
    rw [e0]
    exact ⟨rfl, N0, rfl⟩
theorem pd__Ljava_lang_Object_Ljava_lang_String__Ljava_lang_Object_ : parseMethodDescriptor "(Ljava/lang/Object;Ljava/lang/String;)Ljava/lang/Object;" = some ⟨[(.object "java/lang/Object"), (.object "java/lang/String")], some (.object "java/lang/Object")⟩ := by decide +kernel
theorem d_prog_16_method_1_code_10 : decode prog_16_method_1_code 10 = .ok (.pop, 1) := by decide +kernel
theorem d_prog_16_method_1_code_11 : decode prog_16_method_1_code 11 = .ok (.aload_n 2, 1) := by decide +kernel
theorem d_prog_16_method_1_code_12 : decode prog_16_method_1_code 12 = .ok (.ldc 15, 2) := by decide +kernel
theorem d_prog_16_method_1_code_14 : decode prog_16_method_1_code 14 = .ok (.invokestatic 9, 3) := by decide +kernel
theorem d_prog_16_method_1_code_17 : decode prog_16_method_1_code 17 = .ok (.pop, 1) := by decide +kernel
theorem d_prog_16_method_1_code_18 : decode prog_16_method_1_code 18 = .ok (.aload_n 0, 1) := by decide +kernel
theorem d_prog_16_method_1_code_19 : decode prog_16_method_1_code 19 = .ok (.aload_n 1, 1) := by decide +kernel
theorem d_prog_16_method_1_code_20 : decode prog_16_method_1_code 20 = .ok (.putfield 17, 3) := by decide +kernel
theorem d_prog_16_method_1_code_23 : decode prog_16_method_1_code 23 = .ok (.aload_n 0, 1) := by decide +kernel
theorem d_prog_16_method_1_code_24 : decode prog_16_method_1_code 24 = .ok (.aload_n 2, 1) := by decide +kernel
theorem d_prog_16_method_1_code_25 : decode prog_16_method_1_code 25 = .ok (.putfield 22, 3) := by decide +kernel
theorem d_prog_16_method_1_code_28 : decode prog_16_method_1_code 28 = .ok (.return_, 1) := by decide +kernel
theorem pn_com_example_attenuation_attenuation_core_Outcome : plainName "com/example/attenuation/attenuation/core/Outcome" = true := by first | (simp [plainName, overriddenIn]; done) | decide +kernel
abbrev own_m2 : MethodName := ⟨"com/example/attenuation/attenuation/core/Outcome", "<init>", "(Lcom/example/attenuation/attenuation/core/Outcome$Status;[B)V"⟩
def Q_ci (Z : State) (a1 : Addr) (r2 : Addr) (r3 : Addr) (a_FAILED : Addr) (h0 : Heap) (n0 : Nat) (v : Option Value) (h : Heap) (L : List Loc) : Prop := v = none ∧ Fr n0 L ∧ Old Z n0 h ∧ Keep h0 h [a1] ∧ Exa Z h a1 "com/example/attenuation/attenuation/core/Outcome" ∧ Fld Z h a1 "com/example/attenuation/attenuation/core/Outcome" "status" "Lcom/example/attenuation/attenuation/core/Outcome$Status;" (.ref r2) ∧ Fld Z h a1 "com/example/attenuation/attenuation/core/Outcome" "body" "[B" (.ref r3)
set_option maxRecDepth 65536 in
set_option maxHeartbeats 40000000 in
theorem rm_ci (l : Launch) (Z : State) (a0 : Array Value) (hw : ∀ d ∈ tables_1, d.before a0 Z = true) (ws : List Jvm.Cond) (a1 : Addr) (r2 : Addr) (r3 : Addr) (a_FAILED : Addr) (h0 : Heap) (n0 : Nat) (O0 : Old Z n0 h0) (hE : EV Z a_FAILED) (F_status : Fld Z h0 a1 "com/example/attenuation/attenuation/core/Outcome" "status" "Lcom/example/attenuation/attenuation/core/Outcome$Status;" .null) (F_body : Fld Z h0 a1 "com/example/attenuation/attenuation/core/Outcome" "body" "[B" .null) (E_a1 : Exa Z h0 a1 "com/example/attenuation/attenuation/core/Outcome") (g_a1 : n0 ≤ a1) :
    MetFree l own_m2 (head1 (Jvm.Cond.code own_m2 prog_16_method_1_code 3 none :: ws) ({ frames := 2, cells := 4, slots := 48, locals := 24 } : Room)) (fun a U => a = #[(.ref a1), (.ref r2), (.ref r3)] ∧ Z.Warmed39 U.vm ∧ U.heap = h0) (fun _ _ _ _ _ => True) (fun _ U o U' => ∃ v L, o = .returned v ∧ Q_ci Z a1 r2 r3 a_FAILED h0 n0 v U'.heap L ∧ ReturnedEndW U o U' L ({ frames := 2, cells := 4, slots := 48, locals := 24 } : Room).cells ({ frames := 2, cells := 4, slots := 48, locals := 24 } : Room).slots) := by
  refine MetFree.of_bodySF (plainFor_of_name pn_com_example_attenuation_attenuation_core_Outcome) hisR ?_
  intro p e s m args below meth c s₁ Bd hml0 hP hK
  obtain ⟨rfl, hZ, hh⟩ := hP
  have hx := Bd.exec
  have hby := Bd.bytes
  have hml : c.maxLocals = 3 := hml0
  have hown : s.vm.findClass "com/example/attenuation/attenuation/core/Outcome" = some m.cls := findClass_of_methodNamed Bd.named
  have hnm := (name_of_methodNamed Bd.named Bd.method).1
  have X0 : Stand p l e ({ frames := 2, cells := 4, slots := 48, locals := 24 } : Room) s m #[(.ref a1), (.ref r2), (.ref r3)] below meth c s₁ [] 0 0 := Stand.of_body Bd
  have e0 : s₁.heap = h0 := by rw [← hh, Bd.state]; rfl
  have N0 := Fr.nil n0
  refine Classical.byContradiction fun hNG => ?_
  have K0 := Keep.refl h0 [a1]
  have k0 : ∀ t, own_At p e below m s₁ 0 #[.val (.ref a1), .val (.ref r2), .val (.ref r3)] [] t → own_En p e below m s₁ #[(.ref a1), (.ref r2), (.ref r3)] 3 t := fun t k => castTop (ef_ci m a1 r2 r3 ) k
  have hS : s.Since s.vm 0 := (State.WarmedH.refl s).since 0
  have X0 : Stand p l e ({ frames := 2, cells := 4, slots := 48, locals := 24 } : Room) (s.setVm s.vm) m #[(.ref a1), (.ref r2), (.ref r3)] below meth c s₁ [] 0 0 := X0
  have hZ : Z.Warmed39 (s.setVm s.vm).vm := hZ
  have hown : (s.setVm s.vm).vm.findClass "com/example/attenuation/attenuation/core/Outcome" = some m.cls := hown
  obtain ⟨S_FAILED, E_FAILED⟩ := (id hE : EV Z a_FAILED)
  obtain ⟨_, _, ⟨T1, L1, k1, n1⟩, -, X1, ⟨Lc1, hQ1, l1, y1, z1⟩, st1⟩ := X0.specialBack hx (y := own_m0) rfl hown (mvT hZ (own_w hw 13 rfl)) (mvT hZ (own_w hw 14 rfl)) (mvT hZ (own_w hw 17 rfl)) (by decide) (backOf (W := 0) (rm_f1 l Z a0 hw [] a1 _ h0 n0 O0 hE) hZ (own_w hw 17 rfl) (own_w hw 16 rfl) (by decide) (by decide)) (g := (mkF m 1 #[.val (.ref a1), .val (.ref r2), .val (.ref r3)] [(.ref a1)])) rfl (by rw [hml]; rfl) (Steps.refl _) (a := a1) (argsL := []) (rest := []) (lenOf pd___V rfl) rfl (by show 2 * 0 + _ ≤ _; exact Nat.le_of_eq rfl) (hb hby d_prog_16_method_1_code_1) (fun _ _ => ⟨rfl, e0, (by decide : 0 + 0 ≤ _), (by decide : 0 + 0 ≤ _)⟩)
  dsimp only [Pt.U, Pt.locs, Pt.cells, Pt.slots] at X1 l1 y1 z1 st1 hQ1
  subst l1 y1 z1
  obtain ⟨rfl, N1q, hp1⟩ := hQ1
  have N1 := Fr.app N0 N1q
  obtain ⟨a2, T2, h2, q2, X2, e2, E2, hS, hk2, hZ, hown, st2⟩ := ldcS X1 hx hZ hown (own_w hw 21 rfl) (own_str hw) hp1 hS (Nat.zero_le _) (g := (mkF m 5 #[.val (.ref a1), .val (.ref r2), .val (.ref r3)] [(.ref r2)])) rfl (hb hby d_prog_16_method_1_code_5) (n := 24) (by decide) (by decide) (by decide) (by decide)
  have O2 := O0.ext E2
  have K2 := K0.ext E2
  obtain ⟨_, _, ⟨T3, L3, k3, n3⟩, -, X3, ⟨Lc3, hQ3, l3, y3, z3⟩, st3⟩ := Jvm.LawKit.callS X2 hx (y := own_m1) hown (mvT hZ (own_w hw 28 rfl)) (mvT hZ (own_w hw 29 rfl)) (mvT hZ (own_w hw 30 rfl)) (mvT hZ (own_w hw 31 rfl)) (by decide) (backOf (W := 0) (rm_f2 l Z a0 hw [] r2 a2 _ h2 n0 O2 hE) hZ (own_w hw 31 rfl) (own_w hw 30 rfl) (by decide) (by decide)) (g := (mkF m 7 #[.val (.ref a1), .val (.ref r2), .val (.ref r3)] [(.ref a2), (.ref r2)])) rfl (by rw [hml]; rfl) (argsL := [(.ref r2), (.ref a2)]) (rest := []) (lenOf pd__Ljava_lang_Object_Ljava_lang_String__Ljava_lang_Object_ rfl) rfl (by show 2 * 0 + _ ≤ _; exact Nat.le_of_eq rfl) (hb hby d_prog_16_method_1_code_7) (fun _ _ => ⟨rfl, e2, (by decide : 2 + 0 ≤ _), (by decide : 28 + 0 ≤ _)⟩)
  dsimp only [Pt.U, Pt.locs, Pt.cells, Pt.slots] at X3 l3 y3 z3 st3 hQ3
  subst l3 y3 z3
  obtain ⟨rfl, N3q, hp3⟩ := hQ3
  have N3 := Fr.app N1 N3q
  obtain ⟨a4, T4, h4, q4, X4, e4, E4, hS, hk4, hZ, hown, st4⟩ := ldcS X3 hx hZ hown (own_w hw 32 rfl) (own_str hw) hp3 hS hk2 (g := (mkF m 12 #[.val (.ref a1), .val (.ref r2), .val (.ref r3)] [(.ref r3)])) rfl (hb hby d_prog_16_method_1_code_12) (n := 16) (by decide) (by decide) (by decide) (by decide)
  have O4 := O2.ext E4
  have K4 := K2.ext E4
  obtain ⟨_, _, ⟨T5, L5, k5, n5⟩, -, X5, ⟨Lc5, hQ5, l5, y5, z5⟩, st5⟩ := Jvm.LawKit.callS X4 hx (y := own_m1) hown (mvT hZ (own_w hw 28 rfl)) (mvT hZ (own_w hw 29 rfl)) (mvT hZ (own_w hw 30 rfl)) (mvT hZ (own_w hw 31 rfl)) (by decide) (backOf (W := 0) (rm_f2 l Z a0 hw [] r3 a4 _ h4 n0 O4 hE) hZ (own_w hw 31 rfl) (own_w hw 30 rfl) (by decide) (by decide)) (g := (mkF m 14 #[.val (.ref a1), .val (.ref r2), .val (.ref r3)] [(.ref a4), (.ref r3)])) rfl (by rw [hml]; rfl) (argsL := [(.ref r3), (.ref a4)]) (rest := []) (lenOf pd__Ljava_lang_Object_Ljava_lang_String__Ljava_lang_Object_ rfl) rfl (by show 2 * 0 + _ ≤ _; exact Nat.le_of_eq rfl) (hb hby d_prog_16_method_1_code_14) (fun _ _ => ⟨rfl, e4, (by decide : 4 + 0 ≤ _), (by decide : 48 + 0 ≤ _)⟩)
  dsimp only [Pt.U, Pt.locs, Pt.cells, Pt.slots] at X5 l5 y5 z5 st5 hQ5
  subst l5 y5 z5
  obtain ⟨rfl, N5q, hp5⟩ := hQ5
  have N5 := Fr.app N3 N5q
  have f6 := ((E_a1.ext E2).ext E4)
  have f7 := ((F_status.ext E2).ext E4)
  obtain ⟨T8, h8, X8, e8, W8, st8⟩ := putF X5 hx hZ hown (host := "") (Or.inl (own_w hw 33 rfl)) Via.refl hp5 f7 f6 (Or.inr ⟨(own_w hw 34 rfl), rfl, hnm⟩) (own_w hw 6 rfl) (ty := (.object "com/example/attenuation/attenuation/core/Outcome$Status")) (by decide) rfl rfl (g := (mkF m 20 #[.val (.ref a1), .val (.ref r2), .val (.ref r3)] [(.ref r2), (.ref a1)])) rfl rfl (hb hby d_prog_16_method_1_code_20)
  have F8_status := f7.same W8
  have N8 := Fr.snoc X8 N5 g_a1
  have O8 := O4.wr W8 g_a1
  have K8 := K4.wr W8 (Or.inl (List.mem_of_getElem? (i := 0) rfl))
  have f9 := (f6.wr W8)
  have f10 := (((F_body.ext E2).ext E4).other W8 (Or.inr (slot_ne (Or.inr (own_w hw 36 rfl)) (Or.inr (own_w hw 34 rfl)) (by decide) (t := (.array .byte)) (t' := (.object "com/example/attenuation/attenuation/core/Outcome$Status")) (by decide) (by decide))))
  obtain ⟨T11, h11, X11, e11, W11, st11⟩ := putF X8 hx hZ hown (host := "") (Or.inl (own_w hw 35 rfl)) Via.refl e8 f10 f9 (Or.inr ⟨(own_w hw 36 rfl), rfl, hnm⟩) (own_w hw 6 rfl) (ty := (.array .byte)) (by decide) rfl rfl (g := (mkF m 25 #[.val (.ref a1), .val (.ref r2), .val (.ref r3)] [(.ref r3), (.ref a1)])) rfl rfl (hb hby d_prog_16_method_1_code_25)
  have F11_body := f10.same W11
  have N11 := Fr.snoc X11 N8 g_a1
  have O11 := O8.wr W11 g_a1
  have K11 := K8.wr W11 (Or.inl (List.mem_of_getElem? (i := 0) rfl))
  have k12 : ∀ t, own_At p e below m T11 28 #[.val (.ref a1), .val (.ref r2), .val (.ref r3)] [] t → own_En p e below m s₁ #[(.ref a1), (.ref r2), (.ref r3)] 3 t := by
    intro t k
    refine k0 t ?_
    refine XS.aloadN X0.here hx rfl (hb hby d_prog_16_method_1_code_0) rfl rfl ?_
    show own_At p e below m s₁ 1 #[.val (.ref a1), .val (.ref r2), .val (.ref r3)] [(.ref a1)] t
    refine st1.trans ?_
    show own_At p e below m T1 4 #[.val (.ref a1), .val (.ref r2), .val (.ref r3)] [] t
    refine XS.aloadN X1.here hx rfl (hb hby d_prog_16_method_1_code_4) rfl rfl ?_
    show own_At p e below m T1 5 #[.val (.ref a1), .val (.ref r2), .val (.ref r3)] [(.ref r2)] t
    refine st2 _ ?_
    show own_At p e below m T2 7 #[.val (.ref a1), .val (.ref r2), .val (.ref r3)] [(.ref a2), (.ref r2)] t
    refine st3 _ ?_
    show own_At p e below m T3 10 #[.val (.ref a1), .val (.ref r2), .val (.ref r3)] [(.ref r2)] t
    refine XS.pop X3.here hx rfl (hb hby d_prog_16_method_1_code_10) rfl rfl ?_
    show own_At p e below m T3 11 #[.val (.ref a1), .val (.ref r2), .val (.ref r3)] [] t
    refine XS.aloadN X3.here hx rfl (hb hby d_prog_16_method_1_code_11) rfl rfl ?_
    show own_At p e below m T3 12 #[.val (.ref a1), .val (.ref r2), .val (.ref r3)] [(.ref r3)] t
    refine st4 _ ?_
    show own_At p e below m T4 14 #[.val (.ref a1), .val (.ref r2), .val (.ref r3)] [(.ref a4), (.ref r3)] t
    refine st5 _ ?_
    show own_At p e below m T5 17 #[.val (.ref a1), .val (.ref r2), .val (.ref r3)] [(.ref r3)] t
    refine XS.pop X5.here hx rfl (hb hby d_prog_16_method_1_code_17) rfl rfl ?_
    show own_At p e below m T5 18 #[.val (.ref a1), .val (.ref r2), .val (.ref r3)] [] t
    refine XS.aloadN X5.here hx rfl (hb hby d_prog_16_method_1_code_18) rfl rfl ?_
    show own_At p e below m T5 19 #[.val (.ref a1), .val (.ref r2), .val (.ref r3)] [(.ref a1)] t
    refine XS.aloadN X5.here hx rfl (hb hby d_prog_16_method_1_code_19) rfl rfl ?_
    show own_At p e below m T5 20 #[.val (.ref a1), .val (.ref r2), .val (.ref r3)] [(.ref r2), (.ref a1)] t
    refine st8 _ ?_
    show own_At p e below m T8 23 #[.val (.ref a1), .val (.ref r2), .val (.ref r3)] [] t
    refine XS.aloadN X8.here hx rfl (hb hby d_prog_16_method_1_code_23) rfl rfl ?_
    show own_At p e below m T8 24 #[.val (.ref a1), .val (.ref r2), .val (.ref r3)] [(.ref a1)] t
    refine XS.aloadN X8.here hx rfl (hb hby d_prog_16_method_1_code_24) rfl rfl ?_
    show own_At p e below m T8 25 #[.val (.ref a1), .val (.ref r2), .val (.ref r3)] [(.ref r3), (.ref a1)] t
    refine st11 _ ?_
    show own_At p e below m T11 28 #[.val (.ref a1), .val (.ref r2), .val (.ref r3)] [] t
    exact k
  have f13 := (F8_status.other W11 (Or.inr (slot_ne (Or.inr (own_w hw 34 rfl)) (Or.inr (own_w hw 36 rfl)) (by decide) (t := (.object "com/example/attenuation/attenuation/core/Outcome$Status")) (t' := (.array .byte)) (by decide) (by decide))))
  have f14 := (f9.wr W11)
  obtain ⟨fs, hr, hrun, hended, hRW⟩ := X11.leaveW hS (by rw [e11]; exact (Nat.le_trans (Nat.le_trans hk4 (Keep.of_wr W8).1) (Keep.of_wr W11).1)) (v := none) (fun _ => rfl)
  refine hNG ⟨_, _, k12 _ ?_, hrun, hended, _, _, rfl, ?_, hRW.1, hRW.2.1, hRW.2.2.1, hRW.2.2.2.mono (by decide) (by decide)⟩
  · exact X11.returnOut hx Bd.returns (hb hby d_prog_16_method_1_code_28) hr
  · show Q_ci Z a1 r2 r3 a_FAILED h0 n0 _ T11.heap _
    rw [e11]
    exact ⟨rfl, N11, O11, K11, f14, f13, F11_body⟩
theorem ef_dn (m : MethodId) (x0 : Addr)  : entryFrame m #[(.ref x0)] 1 = mkF m 0 #[.val (.ref x0)] [] := by first | (simp [entryFrame, mkF, argsToLocals, Value.category]; done) | rfl
theorem d_prog_16_method_5_code_0 : decode prog_16_method_5_code 0 = .ok (.new 18, 3) := by decide +kernel
theorem d_prog_16_method_5_code_3 : decode prog_16_method_5_code 3 = .ok (.dup, 1) := by decide +kernel
theorem d_prog_16_method_5_code_4 : decode prog_16_method_5_code 4 = .ok (.getstatic 55, 3) := by decide +kernel
theorem d_prog_16_method_5_code_7 : decode prog_16_method_5_code 7 = .ok (.aload_n 0, 1) := by decide +kernel
theorem d_prog_16_method_5_code_8 : decode prog_16_method_5_code 8 = .ok (.invokespecial 30, 3) := by decide +kernel
theorem pd__Lcom_example_attenuation_attenuation_core_Outcome_Status__B_V : parseMethodDescriptor "(Lcom/example/attenuation/attenuation/core/Outcome$Status;[B)V" = some ⟨[(.object "com/example/attenuation/attenuation/core/Outcome$Status"), (.array .byte)], none⟩ := by decide +kernel
theorem d_prog_16_method_5_code_11 : decode prog_16_method_5_code 11 = .ok (.areturn, 1) := by decide +kernel
abbrev own_m3 : MethodName := ⟨"com/example/attenuation/attenuation/core/Outcome", "failed", "([B)Lcom/example/attenuation/attenuation/core/Outcome;"⟩
def Q_dn (Z : State) (q0 : Addr) (a_FAILED : Addr) (h0 : Heap) (n0 : Nat) (v : Option Value) (h : Heap) (L : List Loc) : Prop := ∃ (b : Addr), v = some (.ref b) ∧ Fr n0 L ∧ Old Z n0 h ∧ Keep h0 h [] ∧ n0 ≤ b ∧ h0.size ≤ b ∧ Exa Z h b "com/example/attenuation/attenuation/core/Outcome" ∧ Fld Z h b "com/example/attenuation/attenuation/core/Outcome" "status" "Lcom/example/attenuation/attenuation/core/Outcome$Status;" (.ref a_FAILED) ∧ Fld Z h b "com/example/attenuation/attenuation/core/Outcome" "body" "[B" (.ref q0)
set_option maxRecDepth 65536 in
set_option maxHeartbeats 40000000 in
theorem rm_dn (l : Launch) (Z : State) (a0 : Array Value) (hw : ∀ d ∈ tables_1, d.before a0 Z = true) (ws : List Jvm.Cond) (q0 : Addr) (a_FAILED : Addr) (h0 : Heap) (n0 : Nat) (O0 : Old Z n0 h0) (hE : EV Z a_FAILED) :
    MetFree l own_m3 (head1 (Jvm.Cond.code own_m3 prog_16_method_5_code 1 (some (.object "com/example/attenuation/attenuation/core/Outcome")) :: ws) ({ frames := 3, cells := 5, slots := 50, locals := 39 } : Room)) (fun a U => a = #[(.ref q0)] ∧ Z.Warmed39 U.vm ∧ U.heap = h0) (fun _ _ _ _ _ => True) (fun _ U o U' => ∃ v L, o = .returned v ∧ Q_dn Z q0 a_FAILED h0 n0 v U'.heap L ∧ ReturnedEndW U o U' L ({ frames := 3, cells := 5, slots := 50, locals := 39 } : Room).cells ({ frames := 3, cells := 5, slots := 50, locals := 39 } : Room).slots) := by
  refine MetFree.of_bodySF (plainFor_of_name pn_com_example_attenuation_attenuation_core_Outcome) hisR ?_
  intro p e s m args below meth c s₁ Bd hml0 hP hK
  obtain ⟨rfl, hZ, hh⟩ := hP
  have hx := Bd.exec
  have hby := Bd.bytes
  have hml : c.maxLocals = 1 := hml0
  have hown : s.vm.findClass "com/example/attenuation/attenuation/core/Outcome" = some m.cls := findClass_of_methodNamed Bd.named
  have hnm := (name_of_methodNamed Bd.named Bd.method).1
  have X0 : Stand p l e ({ frames := 3, cells := 5, slots := 50, locals := 39 } : Room) s m #[(.ref q0)] below meth c s₁ [] 0 0 := Stand.of_body Bd
  have e0 : s₁.heap = h0 := by rw [← hh, Bd.state]; rfl
  have N0 := Fr.nil n0
  refine Classical.byContradiction fun hNG => ?_
  have K0 := Keep.refl h0 []
  have k0 : ∀ t, own_At p e below m s₁ 0 #[.val (.ref q0)] [] t → own_En p e below m s₁ #[(.ref q0)] 1 t := fun t k => castTop (ef_dn m q0 ) k
  have hS : s.Since s.vm 0 := (State.WarmedH.refl s).since 0
  have X0 : Stand p l e ({ frames := 3, cells := 5, slots := 50, locals := 39 } : Room) (s.setVm s.vm) m #[(.ref q0)] below meth c s₁ [] 0 0 := X0
  have hZ : Z.Warmed39 (s.setVm s.vm).vm := hZ
  have hown : (s.setVm s.vm).vm.findClass "com/example/attenuation/attenuation/core/Outcome" = some m.cls := hown
  obtain ⟨S_FAILED, E_FAILED⟩ := (id hE : EV Z a_FAILED)
  obtain ⟨T1, h1, X1, e1, E1, A1, D1, -, st1⟩ := newO X0 hx hZ hown (own_w hw 5 rfl) (own_w hw 6 rfl) (own_w hw 3 rfl) e0 (g := (mkF m 0 #[.val (.ref q0)] [])) rfl (hb hby d_prog_16_method_5_code_0) (by decide) (by decide)
  obtain ⟨b1, g1⟩ : ∃ z, z = h0.size := ⟨_, rfl⟩
  rw [← g1] at A1 D1 st1
  have O1 := O0.ext E1
  have g_b1 : n0 ≤ b1 := Nat.le_trans (Nat.le_of_eq O0.1.symm) (Nat.le_trans O0.2.1 (Nat.le_of_eq g1.symm))
  have s_b1 : h0.size ≤ b1 := Nat.le_trans K0.1 (Nat.le_of_eq g1.symm)
  have K1 := K0.ext E1
  have lt_b1 := A1.lt
  have F1_status : Fld Z h1 b1 "com/example/attenuation/attenuation/core/Outcome" "status" "Lcom/example/attenuation/attenuation/core/Outcome$Status;" .null := D1 (Or.inr (own_w hw 34 rfl)) (ty := (.object "com/example/attenuation/attenuation/core/Outcome$Status")) (by decide)
  have F1_body : Fld Z h1 b1 "com/example/attenuation/attenuation/core/Outcome" "body" "[B" .null := D1 (Or.inr (own_w hw 36 rfl)) (ty := (.array .byte)) (by decide)
  obtain ⟨T2, X2, e2, st2⟩ := getS2 X1 hx hZ hown (host := "") (Or.inl (own_w hw 7 rfl)) Via.refl e1 (S_FAILED.ext O1.2) (g := (mkF m 4 #[.val (.ref q0)] [(.ref b1), (.ref b1)])) rfl (hb hby d_prog_16_method_5_code_4)
  obtain ⟨_, _, ⟨T3, L3, k3, n3⟩, -, X3, hS3, hg3, ⟨Lc3, hQ3, l3, y3, z3⟩, st3⟩ := X2.specialBackS hx (y := own_m2) rfl hown (mvT hZ (own_w hw 10 rfl)) (mvT hZ (own_w hw 11 rfl)) (mvT hZ (own_w hw 12 rfl)) (by decide) (backOfS (W := 1) (rm_ci l Z a0 hw [] b1 a_FAILED q0 _ h1 n0 O1 hE F1_status F1_body A1 g_b1 ) hZ (own_w hw 12 rfl) (own_w hw 3 rfl) (by decide) (by decide)) (g := (mkF m 8 #[.val (.ref q0)] [(.ref q0), (.ref a_FAILED), (.ref b1), (.ref b1)])) rfl (by rw [hml]; rfl) (Steps.refl _) (a := b1) (argsL := [(.ref a_FAILED), (.ref q0)]) (rest := [(.ref b1)]) (lenOf pd__Lcom_example_attenuation_attenuation_core_Outcome_Status__B_V rfl) rfl (by show 2 * 0 + _ ≤ _; exact Nat.le_of_eq rfl) (hb hby d_prog_16_method_5_code_8) (fun _ _ => ⟨rfl, e2, (by decide : 1 + 4 ≤ _), (by decide : 2 + 48 ≤ _)⟩)
  dsimp only [Pt.U, Pt.locs, Pt.cells, Pt.slots] at X3 l3 y3 z3 st3 hQ3 hS3 hg3
  subst l3 y3 z3
  obtain ⟨X3, hS, hZ, hown⟩ := rebS hS (by rw [e2]; exact (Nat.le_trans (Nat.zero_le _) E1.1)) X3 hS3 hg3 hZ hown
  obtain ⟨rfl, N3q, O3, Kc3, Ex3, G3_0, G3_1⟩ := hQ3
  have N3 := Fr.app N0 N3q
  have K3 := K1.trans Kc3 (allS (Or.inr s_b1) all0)
  have k4 : ∀ t, own_At p e below m T3 11 #[.val (.ref q0)] [(.ref b1)] t → own_En p e below m s₁ #[(.ref q0)] 1 t := by
    intro t k
    refine k0 t ?_
    refine st1 _ ?_
    show own_At p e below m T1 3 #[.val (.ref q0)] [(.ref b1)] t
    refine XS.dup X1.here hx rfl (hb hby d_prog_16_method_5_code_3) rfl rfl ?_
    show own_At p e below m T1 4 #[.val (.ref q0)] [(.ref b1), (.ref b1)] t
    refine st2 _ ?_
    show own_At p e below m T2 7 #[.val (.ref q0)] [(.ref a_FAILED), (.ref b1), (.ref b1)] t
    refine XS.aloadN X2.here hx rfl (hb hby d_prog_16_method_5_code_7) rfl rfl ?_
    show own_At p e below m T2 8 #[.val (.ref q0)] [(.ref q0), (.ref a_FAILED), (.ref b1), (.ref b1)] t
    refine st3.trans ?_
    show own_At p e below m T3 11 #[.val (.ref q0)] [(.ref b1)] t
    exact k
  obtain ⟨fs, hr, hrun, hended, hRW⟩ := X3.leaveW hS (by exact (Nat.le_refl _)) (v := some (.ref b1)) (fun h => by rw [Bd.returns] at h; cases h)
  refine hNG ⟨_, _, k4 _ ?_, hrun, hended, _, _, rfl, ?_, hRW.1, hRW.2.1, hRW.2.2.1, hRW.2.2.2.mono (by decide) (by decide)⟩
  · exact retOut X3 hx (t := (.object "com/example/attenuation/attenuation/core/Outcome")) Bd.returns rfl (Or.inr (Or.inr (Or.inr (Or.inr ⟨rfl, rfl, rfl⟩)))) (hb hby d_prog_16_method_5_code_11) hr
  · show Q_dn Z q0 a_FAILED h0 n0 _ T3.heap _
    exact ⟨b1, rfl, N3, O3, K3, g_b1, s_b1, Ex3, G3_0, G3_1⟩
theorem ef_gs (m : MethodId) (x0 : Addr)  : entryFrame m #[(.ref x0)] 1 = mkF m 0 #[.val (.ref x0)] [] := by first | (simp [entryFrame, mkF, argsToLocals, Value.category]; done) | rfl
theorem d_prog_16_method_15_code_0 : decode prog_16_method_15_code 0 = .ok (.aload_n 0, 1) := by decide +kernel
theorem d_prog_16_method_15_code_1 : decode prog_16_method_15_code 1 = .ok (.getfield 17, 3) := by decide +kernel
theorem d_prog_16_method_15_code_4 : decode prog_16_method_15_code 4 = .ok (.areturn, 1) := by decide +kernel
abbrev own_m4 : MethodName := ⟨"com/example/attenuation/attenuation/core/Outcome", "status", "()Lcom/example/attenuation/attenuation/core/Outcome$Status;"⟩
def Q_gs (Z : State) (q0 : Addr) (r0 : Addr) (a_FAILED : Addr) (h0 : Heap) (n0 : Nat) (v : Option Value) (h : Heap) (L : List Loc) : Prop := v = some (.ref r0) ∧ Fr n0 L ∧ h = h0
set_option maxRecDepth 65536 in
set_option maxHeartbeats 40000000 in
theorem rm_gs (l : Launch) (Z : State) (a0 : Array Value) (hw : ∀ d ∈ tables_1, d.before a0 Z = true) (ws : List Jvm.Cond) (q0 : Addr) (r0 : Addr) (a_FAILED : Addr) (h0 : Heap) (n0 : Nat) (O0 : Old Z n0 h0) (hE : EV Z a_FAILED) (P0 : Fld Z h0 q0 "com/example/attenuation/attenuation/core/Outcome" "status" "Lcom/example/attenuation/attenuation/core/Outcome$Status;" (.ref r0)) :
    MetFree l own_m4 (head1 (Jvm.Cond.code own_m4 prog_16_method_15_code 1 (some (.object "com/example/attenuation/attenuation/core/Outcome$Status")) :: ws) ({ frames := 0, cells := 0, slots := 0, locals := 0 } : Room)) (fun a U => a = #[(.ref q0)] ∧ Z.Warmed39 U.vm ∧ U.heap = h0) (fun _ _ _ _ _ => True) (fun _ U o U' => ∃ v L, o = .returned v ∧ Q_gs Z q0 r0 a_FAILED h0 n0 v U'.heap L ∧ FrameEnd U o U' L ({ frames := 0, cells := 0, slots := 0, locals := 0 } : Room).cells ({ frames := 0, cells := 0, slots := 0, locals := 0 } : Room).slots) := by
  refine MetFree.of_bodySF (plainFor_of_name pn_com_example_attenuation_attenuation_core_Outcome) hisR ?_
  intro p e s m args below meth c s₁ Bd hml0 hP hK
  obtain ⟨rfl, hZ, hh⟩ := hP
  have hx := Bd.exec
  have hby := Bd.bytes
  have hml : c.maxLocals = 1 := hml0
  have hown : s.vm.findClass "com/example/attenuation/attenuation/core/Outcome" = some m.cls := findClass_of_methodNamed Bd.named
  have hnm := (name_of_methodNamed Bd.named Bd.method).1
  have X0 : Stand p l e ({ frames := 0, cells := 0, slots := 0, locals := 0 } : Room) s m #[(.ref q0)] below meth c s₁ [] 0 0 := Stand.of_body Bd
  have e0 : s₁.heap = h0 := by rw [← hh, Bd.state]; rfl
  have N0 := Fr.nil n0
  refine Classical.byContradiction fun hNG => ?_
  have K0 := Keep.refl h0 []
  have k0 : ∀ t, own_At p e below m s₁ 0 #[.val (.ref q0)] [] t → own_En p e below m s₁ #[(.ref q0)] 1 t := fun t k => castTop (ef_gs m q0 ) k
  obtain ⟨S_FAILED, E_FAILED⟩ := (id hE : EV Z a_FAILED)
  obtain ⟨T1, X1, e1, st1⟩ := getF X0 hx hZ hown (host := "") (Or.inl (own_w hw 33 rfl)) Via.refl e0 P0 (g := (mkF m 1 #[.val (.ref q0)] [(.ref q0)])) rfl rfl (hb hby d_prog_16_method_15_code_1)
  have k2 : ∀ t, own_At p e below m T1 4 #[.val (.ref q0)] [(.ref r0)] t → own_En p e below m s₁ #[(.ref q0)] 1 t := by
    intro t k
    refine k0 t ?_
    refine XS.aloadN X0.here hx rfl (hb hby d_prog_16_method_15_code_0) rfl rfl ?_
    show own_At p e below m s₁ 1 #[.val (.ref q0)] [(.ref q0)] t
    refine st1 _ ?_
    show own_At p e below m T1 4 #[.val (.ref q0)] [(.ref r0)] t
    exact k
  obtain ⟨fs, hr, hrun, hended, hW, hsame⟩ := X1.leave (v := some (.ref r0)) (fun h => by rw [Bd.returns] at h; cases h)
  refine hNG ⟨_, _, k2 _ ?_, hrun, hended, _, _, rfl, ?_, ⟨_, rfl⟩, hW, hsame.mono (by decide) (by decide)⟩
  · exact retOut X1 hx (t := (.object "com/example/attenuation/attenuation/core/Outcome$Status")) Bd.returns rfl (Or.inr (Or.inr (Or.inr (Or.inr ⟨rfl, rfl, rfl⟩)))) (hb hby d_prog_16_method_15_code_4) hr
  · show Q_gs Z q0 r0 a_FAILED h0 n0 _ T1.heap _
    rw [e1]
    exact ⟨rfl, N0, rfl⟩
theorem ef_gb (m : MethodId) (x0 : Addr)  : entryFrame m #[(.ref x0)] 1 = mkF m 0 #[.val (.ref x0)] [] := by first | (simp [entryFrame, mkF, argsToLocals, Value.category]; done) | rfl
theorem d_prog_16_method_16_code_0 : decode prog_16_method_16_code 0 = .ok (.aload_n 0, 1) := by decide +kernel
theorem d_prog_16_method_16_code_1 : decode prog_16_method_16_code 1 = .ok (.getfield 22, 3) := by decide +kernel
theorem d_prog_16_method_16_code_4 : decode prog_16_method_16_code 4 = .ok (.areturn, 1) := by decide +kernel
abbrev own_m5 : MethodName := ⟨"com/example/attenuation/attenuation/core/Outcome", "body", "()[B"⟩
def Q_gb (Z : State) (q0 : Addr) (r0 : Addr) (a_FAILED : Addr) (h0 : Heap) (n0 : Nat) (v : Option Value) (h : Heap) (L : List Loc) : Prop := v = some (.ref r0) ∧ Fr n0 L ∧ h = h0
set_option maxRecDepth 65536 in
set_option maxHeartbeats 40000000 in
theorem rm_gb (l : Launch) (Z : State) (a0 : Array Value) (hw : ∀ d ∈ tables_1, d.before a0 Z = true) (ws : List Jvm.Cond) (q0 : Addr) (r0 : Addr) (a_FAILED : Addr) (h0 : Heap) (n0 : Nat) (O0 : Old Z n0 h0) (hE : EV Z a_FAILED) (P0 : Fld Z h0 q0 "com/example/attenuation/attenuation/core/Outcome" "body" "[B" (.ref r0)) :
    MetFree l own_m5 (head1 (Jvm.Cond.code own_m5 prog_16_method_16_code 1 (some (.array .byte)) :: ws) ({ frames := 0, cells := 0, slots := 0, locals := 0 } : Room)) (fun a U => a = #[(.ref q0)] ∧ Z.Warmed39 U.vm ∧ U.heap = h0) (fun _ _ _ _ _ => True) (fun _ U o U' => ∃ v L, o = .returned v ∧ Q_gb Z q0 r0 a_FAILED h0 n0 v U'.heap L ∧ FrameEnd U o U' L ({ frames := 0, cells := 0, slots := 0, locals := 0 } : Room).cells ({ frames := 0, cells := 0, slots := 0, locals := 0 } : Room).slots) := by
  refine MetFree.of_bodySF (plainFor_of_name pn_com_example_attenuation_attenuation_core_Outcome) hisR ?_
  intro p e s m args below meth c s₁ Bd hml0 hP hK
  obtain ⟨rfl, hZ, hh⟩ := hP
  have hx := Bd.exec
  have hby := Bd.bytes
  have hml : c.maxLocals = 1 := hml0
  have hown : s.vm.findClass "com/example/attenuation/attenuation/core/Outcome" = some m.cls := findClass_of_methodNamed Bd.named
  have hnm := (name_of_methodNamed Bd.named Bd.method).1
  have X0 : Stand p l e ({ frames := 0, cells := 0, slots := 0, locals := 0 } : Room) s m #[(.ref q0)] below meth c s₁ [] 0 0 := Stand.of_body Bd
  have e0 : s₁.heap = h0 := by rw [← hh, Bd.state]; rfl
  have N0 := Fr.nil n0
  refine Classical.byContradiction fun hNG => ?_
  have K0 := Keep.refl h0 []
  have k0 : ∀ t, own_At p e below m s₁ 0 #[.val (.ref q0)] [] t → own_En p e below m s₁ #[(.ref q0)] 1 t := fun t k => castTop (ef_gb m q0 ) k
  obtain ⟨S_FAILED, E_FAILED⟩ := (id hE : EV Z a_FAILED)
  obtain ⟨T1, X1, e1, st1⟩ := getF X0 hx hZ hown (host := "") (Or.inl (own_w hw 35 rfl)) Via.refl e0 P0 (g := (mkF m 1 #[.val (.ref q0)] [(.ref q0)])) rfl rfl (hb hby d_prog_16_method_16_code_1)
  have k2 : ∀ t, own_At p e below m T1 4 #[.val (.ref q0)] [(.ref r0)] t → own_En p e below m s₁ #[(.ref q0)] 1 t := by
    intro t k
    refine k0 t ?_
    refine XS.aloadN X0.here hx rfl (hb hby d_prog_16_method_16_code_0) rfl rfl ?_
    show own_At p e below m s₁ 1 #[.val (.ref q0)] [(.ref q0)] t
    refine st1 _ ?_
    show own_At p e below m T1 4 #[.val (.ref q0)] [(.ref r0)] t
    exact k
  obtain ⟨fs, hr, hrun, hended, hW, hsame⟩ := X1.leave (v := some (.ref r0)) (fun h => by rw [Bd.returns] at h; cases h)
  refine hNG ⟨_, _, k2 _ ?_, hrun, hended, _, _, rfl, ?_, ⟨_, rfl⟩, hW, hsame.mono (by decide) (by decide)⟩
  · exact retOut X1 hx (t := (.array .byte)) Bd.returns rfl (Or.inr (Or.inr (Or.inr (Or.inr ⟨rfl, rfl, rfl⟩)))) (hb hby d_prog_16_method_16_code_4) hr
  · show Q_gb Z q0 r0 a_FAILED h0 n0 _ T1.heap _
    rw [e1]
    exact ⟨rfl, N0, rfl⟩
theorem ef_law (m : MethodId) (x0 : Int32) (x1 : Int32) (x2 : Int32)  : entryFrame m #[(.int x0), (.int x1), (.int x2)] maxLocals = mkF m 0 #[.val (.int x0), .val (.int x1), .val (.int x2), .unset, .unset, .unset] [] := by first | (simp [entryFrame, mkF, argsToLocals, Value.category, maxLocals]; done) | rfl
theorem pd___B_Lcom_example_attenuation_attenuation_core_Outcome_ : parseMethodDescriptor "([B)Lcom/example/attenuation/attenuation/core/Outcome;" = some ⟨[(.array .byte)], some (.object "com/example/attenuation/attenuation/core/Outcome")⟩ := by decide +kernel
theorem pd___Lcom_example_attenuation_attenuation_core_Outcome_Status_ : parseMethodDescriptor "()Lcom/example/attenuation/attenuation/core/Outcome$Status;" = some ⟨[], some (.object "com/example/attenuation/attenuation/core/Outcome$Status")⟩ := by decide +kernel
theorem pd____B : parseMethodDescriptor "()[B" = some ⟨[], some (.array .byte)⟩ := by decide +kernel
theorem pn_com_example_attenuation_attenuation_core_OutcomeFailedPinLaw : plainName "com/example/attenuation/attenuation/core/OutcomeFailedPinLaw" = true := by first | (simp [plainName, overriddenIn]; done) | decide +kernel
def Q_law (Z : State) (p0 : Int32) (p1 : Int32) (p2 : Int32) (a_FAILED : Addr) (h0 : Heap) (n0 : Nat) (v : Option Value) (h : Heap) (L : List Loc) : Prop := v = some (.int (1 : Int32)) ∧ Fr n0 L
set_option maxRecDepth 65536 in
set_option maxHeartbeats 40000000 in
theorem rm_law (l : Launch) (Z : State) (a0 : Array Value) (hw : ∀ d ∈ tables_1, d.before a0 Z = true) (ws : List Jvm.Cond) (p0 : Int32) (p1 : Int32) (p2 : Int32) (a_FAILED : Addr) (h0 : Heap) (n0 : Nat) (O0 : Old Z n0 h0) (hE : EV Z a_FAILED) :
    MetFree l x (head1 (Jvm.Cond.code x code maxLocals ret :: ws) room_1) (fun a U => a = #[(.int p0), (.int p1), (.int p2)] ∧ Z.Warmed39 U.vm ∧ U.heap = h0) (fun _ _ _ _ _ => True) (fun _ U o U' => ∃ v L, o = .returned v ∧ Q_law Z p0 p1 p2 a_FAILED h0 n0 v U'.heap L ∧ ReturnedEndW U o U' L 6 53) := by
  refine MetFree.of_bodySF (plainFor_of_name pn_com_example_attenuation_attenuation_core_OutcomeFailedPinLaw) hisR ?_
  intro p e s m args below meth c s₁ Bd hml0 hP hK
  obtain ⟨rfl, hZ, hh⟩ := hP
  have hx := Bd.exec
  have hby := Bd.bytes
  have hml : c.maxLocals = 6 := hml0
  have hown : s.vm.findClass "com/example/attenuation/attenuation/core/OutcomeFailedPinLaw" = some m.cls := findClass_of_methodNamed Bd.named
  have hnm := (name_of_methodNamed Bd.named Bd.method).1
  have X0 : Stand p l e room_1 s m #[(.int p0), (.int p1), (.int p2)] below meth c s₁ [] 0 0 := Stand.of_body Bd
  have e0 : s₁.heap = h0 := by rw [← hh, Bd.state]; rfl
  have N0 := Fr.nil n0
  refine Classical.byContradiction fun hNG => ?_
  have K0 := Keep.refl h0 []
  have k0 : ∀ t, own_At p e below m s₁ 0 #[.val (.int p0), .val (.int p1), .val (.int p2), .unset, .unset, .unset] [] t → own_En p e below m s₁ #[(.int p0), (.int p1), (.int p2)] maxLocals t := fun t k => castTop (ef_law m p0 p1 p2 ) k
  have hS : s.Since s.vm 0 := (State.WarmedH.refl s).since 0
  have X0 : Stand p l e room_1 (s.setVm s.vm) m #[(.int p0), (.int p1), (.int p2)] below meth c s₁ [] 0 0 := X0
  have hZ : Z.Warmed39 (s.setVm s.vm).vm := hZ
  have hown : (s.setVm s.vm).vm.findClass "com/example/attenuation/attenuation/core/OutcomeFailedPinLaw" = some m.cls := hown
  obtain ⟨S_FAILED, E_FAILED⟩ := (id hE : EV Z a_FAILED)
  have k1 : ∀ t, own_At p e below m s₁ 3 #[.val (.int p0), .val (.int p1), .val (.int p2), .unset, .unset, .unset] [(.int (p0 &&& (1 : Int32)))] t → own_En p e below m s₁ #[(.int p0), (.int p1), (.int p2)] maxLocals t := by
    intro t k
    refine k0 t ?_
    refine XS.iloadN X0.here hx rfl (hb hby at_0) rfl ?_
    show own_At p e below m s₁ 1 #[.val (.int p0), .val (.int p1), .val (.int p2), .unset, .unset, .unset] [(.int p0)] t
    refine XS.iconst X0.here hx rfl (hb hby at_1) ?_
    show own_At p e below m s₁ 2 #[.val (.int p0), .val (.int p1), .val (.int p2), .unset, .unset, .unset] [(.int (1 : Int32)), (.int p0)] t
    refine XS.iand X0.here hx rfl (hb hby at_2) rfl ?_
    show own_At p e below m s₁ 3 #[.val (.int p0), .val (.int p1), .val (.int p2), .unset, .unset, .unset] [(.int (p0 &&& (1 : Int32)))] t
    exact k
  by_cases hc2 : (p0 &&& (1 : Int32)) = (0 : Int32)
  · obtain ⟨T3, h3, c3, X3, e3, E3, A3, st3⟩ := newP X0 hx hZ (own_w hw 0 rfl) e0 (g := (mkF m 23 #[.val (.int p0), .val (.int p1), .val (.int p2), .val (.int (0 : Int32)), .unset, .unset] [(.int (3 : Int32))])) rfl (hb hby at_23) rfl (by decide) (cap := 3) (by decide) (by decide) (by decide) (by decide)
    obtain ⟨b3, g3⟩ : ∃ z, z = h0.size := ⟨_, rfl⟩
    rw [← g3] at A3 st3
    have O3 := O0.ext E3
    have g_b3 : n0 ≤ b3 := Nat.le_trans (Nat.le_of_eq O0.1.symm) (Nat.le_trans O0.2.1 (Nat.le_of_eq g3.symm))
    have s_b3 : h0.size ≤ b3 := Nat.le_trans K0.1 (Nat.le_of_eq g3.symm)
    have K3 := K0.ext E3
    have V3 : Arv Z h3 b3 c3 .byte (3 : Int32) [(.int (0 : Int32)), (.int (0 : Int32)), (.int (0 : Int32))] (.int (0 : Int32)) := (Arv.new A3 (by decide)).pad (pad_rep [] (.int (0 : Int32)) 3)
    have lt_b3 := V3.lt
    obtain ⟨cl4, Ar4, q4, Sz4, Nn4, Hs4, Gf4⟩ := id V3
    have hin5 : ¬ ((0 : Int32) < 0 ∨ cl4.slots.size ≤ ((0 : Int32)).toNatClampNeg) := inb_of Sz4 ⟨by decide, by decide⟩
    obtain ⟨T6, h6, X6, e6, W6, st6⟩ := stB X3 hx hZ e3 Ar4 (j := (0 : Int32)) hin5 (g := (mkF m 36 #[.val (.int p0), .val (.int p1), .val (.int p2), .val (.int (0 : Int32)), .val (.ref b3), .unset] [(.int (p0.toInt8.toInt32)), (.int (0 : Int32)), (.ref b3)])) rfl rfl (hb hby at_36)
    have V6 : Arv Z h6 b3 c3 .byte (3 : Int32) [(.int (p0.toInt8.toInt32)), (.int (0 : Int32)), (.int (0 : Int32))] (.int (0 : Int32)) := by
      have q := Arv.set Ar4 q4 Sz4 Nn4 Hs4 Gf4 (fits_nar_byte _) W6 0 rfl (Nat.le_of_ble_eq_true rfl)
      first | exact q | (simp only [own_b2, own_narb2] at q; exact q)
    have N6 := Fr.snoc X6 N0 g_b3
    have O6 := O3.wr W6 g_b3
    have K6 := K3.wr W6 (Or.inr s_b3)
    obtain ⟨cl7, Ar7, q7, Sz7, Nn7, Hs7, Gf7⟩ := id V6
    have hin8 : ¬ ((1 : Int32) < 0 ∨ cl7.slots.size ≤ ((1 : Int32)).toNatClampNeg) := inb_of Sz7 ⟨by decide, by decide⟩
    obtain ⟨T9, h9, X9, e9, W9, st9⟩ := stB X6 hx hZ e6 Ar7 (j := (1 : Int32)) hin8 (g := (mkF m 42 #[.val (.int p0), .val (.int p1), .val (.int p2), .val (.int (0 : Int32)), .val (.ref b3), .unset] [(.int (p1.toInt8.toInt32)), (.int (1 : Int32)), (.ref b3)])) rfl rfl (hb hby at_42)
    have V9 : Arv Z h9 b3 c3 .byte (3 : Int32) [(.int (p0.toInt8.toInt32)), (.int (p1.toInt8.toInt32)), (.int (0 : Int32))] (.int (0 : Int32)) := by
      have q := Arv.set Ar7 q7 Sz7 Nn7 Hs7 Gf7 (fits_nar_byte _) W9 1 rfl (Nat.le_of_ble_eq_true rfl)
      first | exact q | (simp only [own_b2, own_narb2] at q; exact q)
    have N9 := Fr.snoc X9 N6 g_b3
    have O9 := O6.wr W9 g_b3
    have K9 := K6.wr W9 (Or.inr s_b3)
    obtain ⟨cl10, Ar10, q10, Sz10, Nn10, Hs10, Gf10⟩ := id V9
    have hin11 : ¬ ((2 : Int32) < 0 ∨ cl10.slots.size ≤ ((2 : Int32)).toNatClampNeg) := inb_of Sz10 ⟨by decide, by decide⟩
    obtain ⟨T12, h12, X12, e12, W12, st12⟩ := stB X9 hx hZ e9 Ar10 (j := (2 : Int32)) hin11 (g := (mkF m 48 #[.val (.int p0), .val (.int p1), .val (.int p2), .val (.int (0 : Int32)), .val (.ref b3), .unset] [(.int (p2.toInt8.toInt32)), (.int (2 : Int32)), (.ref b3)])) rfl rfl (hb hby at_48)
    have V12 : Arv Z h12 b3 c3 .byte (3 : Int32) [(.int (p0.toInt8.toInt32)), (.int (p1.toInt8.toInt32)), (.int (p2.toInt8.toInt32))] (.int (0 : Int32)) := by
      have q := Arv.set Ar10 q10 Sz10 Nn10 Hs10 Gf10 (fits_nar_byte _) W12 2 rfl (Nat.le_of_ble_eq_true rfl)
      first | exact q | (simp only [own_b2, own_narb2] at q; exact q)
    have N12 := Fr.snoc X12 N9 g_b3
    have O12 := O9.wr W12 g_b3
    have K12 := K9.wr W12 (Or.inr s_b3)
    obtain ⟨_, _, ⟨T13, L13, k13, n13⟩, -, X13, hS13, hg13, ⟨Lc13, hQ13, l13, y13, z13⟩, st13⟩ := callSS X12 hx (y := own_m3) hown (mvT hZ (own_w hw 1 rfl)) (mvT hZ (own_w hw 2 rfl)) (mvT hZ (own_w hw 3 rfl)) (mvT hZ (own_w hw 4 rfl)) (by decide) (backOfS (W := 0) (rm_dn l Z a0 hw [] b3 _ h12 n0 O12 hE  ) hZ (own_w hw 4 rfl) (own_w hw 3 rfl) (by decide) (by decide)) (g := (mkF m 51 #[.val (.int p0), .val (.int p1), .val (.int p2), .val (.int (0 : Int32)), .val (.ref b3), .unset] [(.ref b3)])) rfl (by rw [hml]; rfl) (argsL := [(.ref b3)]) (rest := []) (lenOf pd___B_Lcom_example_attenuation_attenuation_core_Outcome_ rfl) rfl (by show 2 * 0 + _ ≤ _; exact Nat.le_of_eq rfl) (hb hby at_51) (fun _ _ => ⟨rfl, e12, (by decide : 1 + 5 ≤ _), (by decide : 3 + 50 ≤ _)⟩)
    dsimp only [Pt.U, Pt.locs, Pt.cells, Pt.slots] at X13 l13 y13 z13 st13 hQ13 hS13 hg13
    subst l13 y13 z13
    obtain ⟨X13, hS, hZ, hown⟩ := rebS hS (by rw [e12]; exact (Nat.le_trans (Nat.le_trans (Nat.le_trans (Nat.le_trans (Nat.zero_le _) E3.1) (Keep.of_wr W6).1) (Keep.of_wr W9).1) (Keep.of_wr W12).1)) X13 hS13 hg13 hZ hown
    obtain ⟨b13, rfl, N13q, O13, Kc13, g_b13, gs_b13, F13_0, F13_1, F13_2⟩ := hQ13
    have N13 := Fr.app N12 N13q
    have K13 := K12.trans Kc13 (fun x hx => nomatch hx)
    have s_b13 := Nat.le_trans K12.1 gs_b13
    have lt_b13 := F13_0.lt
    obtain ⟨cq14, kq14, q14a, q14b, q14c⟩ := isOf hZ rfl F13_0
    obtain ⟨_, _, ⟨T14, L14, k14, n14⟩, -, X14, ⟨Lc14, hQ14, l14, y14, z14⟩, st14⟩ := X13.virtualBack hx (y := own_m4) (z := own_m4) hown (mvT hZ (own_w hw 37 rfl)) (mvT hZ (own_w hw 38 rfl)) (notFace_of_selects (args := #[]) (mvT hZ (own_w hw 40 rfl))) (mvT hZ (own_w hw 40 rfl)) (mvT hZ (own_w hw 39 rfl)) (by decide) (backOf (W := 0) (rm_gs l Z a0 hw [] b13 a_FAILED _ T13.heap n0 O13 hE F13_1 ) hZ (own_w hw 41 rfl) (own_w hw 3 rfl) (by decide) (by decide)) q14a q14c (g := (mkF m 65 #[.val (.int p0), .val (.int p1), .val (.int p2), .val (.int (0 : Int32)), .val (.ref b3), .val (.ref b13)] [(.ref b13)])) rfl (by rw [hml]; rfl) (Steps.refl _) (argsL := []) (rest := []) (lenOf pd___Lcom_example_attenuation_attenuation_core_Outcome_Status_ rfl) rfl (by show 2 * 0 + _ ≤ _; exact Nat.le_of_eq rfl) (hb hby at_65) (fun _ _ => ⟨rfl, rfl, (by decide : 6 + 0 ≤ _), (by decide : 53 + 0 ≤ _)⟩)
    dsimp only [Pt.U, Pt.locs, Pt.cells, Pt.slots] at X14 l14 y14 z14 st14 hQ14
    subst l14 y14 z14
    obtain ⟨rfl, N14q, hp14⟩ := hQ14
    have N14 := Fr.app N13 N14q
    obtain ⟨T15, X15, e15, st15⟩ := getS2 X14 hx hZ hown (host := "") (Or.inl (own_w hw 42 rfl)) Via.refl hp14 (S_FAILED.ext O13.2) (g := (mkF m 68 #[.val (.int p0), .val (.int p1), .val (.int p2), .val (.int (0 : Int32)), .val (.ref b3), .val (.ref b13)] [(.ref a_FAILED)])) rfl (hb hby at_68)
    obtain ⟨cq16, kq16, q16a, q16b, q16c⟩ := isOf hZ e15 F13_0
    obtain ⟨_, _, ⟨T16, L16, k16, n16⟩, -, X16, ⟨Lc16, hQ16, l16, y16, z16⟩, st16⟩ := X15.virtualBack hx (y := own_m5) (z := own_m5) hown (mvT hZ (own_w hw 43 rfl)) (mvT hZ (own_w hw 44 rfl)) (notFace_of_selects (args := #[]) (mvT hZ (own_w hw 46 rfl))) (mvT hZ (own_w hw 46 rfl)) (mvT hZ (own_w hw 45 rfl)) (by decide) (backOf (W := 0) (rm_gb l Z a0 hw [] b13 b3 _ T13.heap n0 O13 hE F13_2 ) hZ (own_w hw 47 rfl) (own_w hw 3 rfl) (by decide) (by decide)) q16a q16c (g := (mkF m 78 #[.val (.int p0), .val (.int p1), .val (.int p2), .val (.int (0 : Int32)), .val (.ref b3), .val (.ref b13)] [(.ref b13)])) rfl (by rw [hml]; rfl) (Steps.refl _) (argsL := []) (rest := []) (lenOf pd____B rfl) rfl (by show 2 * 0 + _ ≤ _; exact Nat.le_of_eq rfl) (hb hby at_78) (fun _ _ => ⟨rfl, e15, (by decide : 6 + 0 ≤ _), (by decide : 53 + 0 ≤ _)⟩)
    dsimp only [Pt.U, Pt.locs, Pt.cells, Pt.slots] at X16 l16 y16 z16 st16 hQ16
    subst l16 y16 z16
    obtain ⟨rfl, N16q, hp16⟩ := hQ16
    have N16 := Fr.app N14 N16q
    have f17 := (V12.keep Kc13 List.not_mem_nil)
    obtain ⟨cl18, Ar18, q18, Sz18, Nn18, Hs18, Gf18⟩ := id f17
    obtain ⟨cl19, Ar19, q19, Sz19, Nn19, Hs19, Gf19⟩ := id f17
    have hin20 : ¬ ((0 : Int32) < 0 ∨ cl19.slots.size ≤ ((0 : Int32)).toNatClampNeg) := inb_of Sz19 ⟨by decide, by decide⟩
    have hat21 : cl19.slots[((0 : Int32)).toNatClampNeg]? = some (.int (p0.toInt8.toInt32)) := Hs19.at hin20 rfl
    obtain ⟨cl22, Ar22, q22, Sz22, Nn22, Hs22, Gf22⟩ := id f17
    have hin23 : ¬ ((1 : Int32) < 0 ∨ cl22.slots.size ≤ ((1 : Int32)).toNatClampNeg) := inb_of Sz22 ⟨by decide, by decide⟩
    have hat24 : cl22.slots[((1 : Int32)).toNatClampNeg]? = some (.int (p1.toInt8.toInt32)) := Hs22.at hin23 rfl
    obtain ⟨cl25, Ar25, q25, Sz25, Nn25, Hs25, Gf25⟩ := id f17
    have hin26 : ¬ ((2 : Int32) < 0 ∨ cl25.slots.size ≤ ((2 : Int32)).toNatClampNeg) := inb_of Sz25 ⟨by decide, by decide⟩
    have hat27 : cl25.slots[((2 : Int32)).toNatClampNeg]? = some (.int (p2.toInt8.toInt32)) := Hs25.at hin26 rfl
    have k28 : ∀ t, own_At p e below m T16 143 #[.val (.int p0), .val (.int p1), .val (.int p2), .val (.int (0 : Int32)), .val (.ref b3), .val (.ref b13)] [(.int (1 : Int32))] t → own_En p e below m s₁ #[(.int p0), (.int p1), (.int p2)] maxLocals t := by
      intro t k
      refine k1 t ?_
      refine XS.ifYes X0.here hx rfl (pc0 := 3) (pc' := 10) rfl (hb hby at_3) rfl ((if0 _ _).trans (teq hc2).1) (by decide) (by decide) ?_
      show own_At p e below m s₁ 10 #[.val (.int p0), .val (.int p1), .val (.int p2), .unset, .unset, .unset] [] t
      refine XS.iconst X0.here hx rfl (hb hby at_10) ?_
      show own_At p e below m s₁ 11 #[.val (.int p0), .val (.int p1), .val (.int p2), .unset, .unset, .unset] [(.int (0 : Int32))] t
      refine XS.istoreN X0.here hx rfl (hb hby at_11) rfl (l' := #[.val (.int p0), .val (.int p1), .val (.int p2), .val (.int (0 : Int32)), .unset, .unset]) rfl ?_
      show own_At p e below m s₁ 12 #[.val (.int p0), .val (.int p1), .val (.int p2), .val (.int (0 : Int32)), .unset, .unset] [] t
      refine XS.iloadN X0.here hx rfl (hb hby at_12) rfl ?_
      show own_At p e below m s₁ 13 #[.val (.int p0), .val (.int p1), .val (.int p2), .val (.int (0 : Int32)), .unset, .unset] [(.int (0 : Int32))] t
      refine XS.ifYes X0.here hx rfl (pc0 := 13) (pc' := 22) rfl (hb hby at_13) rfl ((if0 _ _).trans (teq (by decide : (0 : Int32) = (0 : Int32))).1) (by decide) (by decide) ?_
      show own_At p e below m s₁ 22 #[.val (.int p0), .val (.int p1), .val (.int p2), .val (.int (0 : Int32)), .unset, .unset] [] t
      refine XS.iconst X0.here hx rfl (hb hby at_22) ?_
      show own_At p e below m s₁ 23 #[.val (.int p0), .val (.int p1), .val (.int p2), .val (.int (0 : Int32)), .unset, .unset] [(.int (3 : Int32))] t
      refine st3 _ ?_
      show own_At p e below m T3 25 #[.val (.int p0), .val (.int p1), .val (.int p2), .val (.int (0 : Int32)), .unset, .unset] [(.ref b3)] t
      refine XS.astore X3.here hx rfl (hb hby at_25) rfl rfl (l' := #[.val (.int p0), .val (.int p1), .val (.int p2), .val (.int (0 : Int32)), .val (.ref b3), .unset]) rfl ?_
      show own_At p e below m T3 27 #[.val (.int p0), .val (.int p1), .val (.int p2), .val (.int (0 : Int32)), .val (.ref b3), .unset] [] t
      refine XS.iloadN X3.here hx rfl (hb hby at_27) rfl ?_
      show own_At p e below m T3 28 #[.val (.int p0), .val (.int p1), .val (.int p2), .val (.int (0 : Int32)), .val (.ref b3), .unset] [(.int (0 : Int32))] t
      refine XS.ifNo X3.here hx rfl (hb hby at_28) rfl ((if0 _ _).trans (teq (by decide : (0 : Int32) = (0 : Int32))).2) ?_
      show own_At p e below m T3 31 #[.val (.int p0), .val (.int p1), .val (.int p2), .val (.int (0 : Int32)), .val (.ref b3), .unset] [] t
      refine XS.aload X3.here hx rfl (hb hby at_31) rfl rfl ?_
      show own_At p e below m T3 33 #[.val (.int p0), .val (.int p1), .val (.int p2), .val (.int (0 : Int32)), .val (.ref b3), .unset] [(.ref b3)] t
      refine XS.iconst X3.here hx rfl (hb hby at_33) ?_
      show own_At p e below m T3 34 #[.val (.int p0), .val (.int p1), .val (.int p2), .val (.int (0 : Int32)), .val (.ref b3), .unset] [(.int (0 : Int32)), (.ref b3)] t
      refine XS.iloadN X3.here hx rfl (hb hby at_34) rfl ?_
      show own_At p e below m T3 35 #[.val (.int p0), .val (.int p1), .val (.int p2), .val (.int (0 : Int32)), .val (.ref b3), .unset] [(.int p0), (.int (0 : Int32)), (.ref b3)] t
      refine XS.i2b X3.here hx rfl (hb hby at_35) rfl ?_
      show own_At p e below m T3 36 #[.val (.int p0), .val (.int p1), .val (.int p2), .val (.int (0 : Int32)), .val (.ref b3), .unset] [(.int (p0.toInt8.toInt32)), (.int (0 : Int32)), (.ref b3)] t
      refine st6 _ ?_
      show own_At p e below m T6 37 #[.val (.int p0), .val (.int p1), .val (.int p2), .val (.int (0 : Int32)), .val (.ref b3), .unset] [] t
      refine XS.aload X6.here hx rfl (hb hby at_37) rfl rfl ?_
      show own_At p e below m T6 39 #[.val (.int p0), .val (.int p1), .val (.int p2), .val (.int (0 : Int32)), .val (.ref b3), .unset] [(.ref b3)] t
      refine XS.iconst X6.here hx rfl (hb hby at_39) ?_
      show own_At p e below m T6 40 #[.val (.int p0), .val (.int p1), .val (.int p2), .val (.int (0 : Int32)), .val (.ref b3), .unset] [(.int (1 : Int32)), (.ref b3)] t
      refine XS.iloadN X6.here hx rfl (hb hby at_40) rfl ?_
      show own_At p e below m T6 41 #[.val (.int p0), .val (.int p1), .val (.int p2), .val (.int (0 : Int32)), .val (.ref b3), .unset] [(.int p1), (.int (1 : Int32)), (.ref b3)] t
      refine XS.i2b X6.here hx rfl (hb hby at_41) rfl ?_
      show own_At p e below m T6 42 #[.val (.int p0), .val (.int p1), .val (.int p2), .val (.int (0 : Int32)), .val (.ref b3), .unset] [(.int (p1.toInt8.toInt32)), (.int (1 : Int32)), (.ref b3)] t
      refine st9 _ ?_
      show own_At p e below m T9 43 #[.val (.int p0), .val (.int p1), .val (.int p2), .val (.int (0 : Int32)), .val (.ref b3), .unset] [] t
      refine XS.aload X9.here hx rfl (hb hby at_43) rfl rfl ?_
      show own_At p e below m T9 45 #[.val (.int p0), .val (.int p1), .val (.int p2), .val (.int (0 : Int32)), .val (.ref b3), .unset] [(.ref b3)] t
      refine XS.iconst X9.here hx rfl (hb hby at_45) ?_
      show own_At p e below m T9 46 #[.val (.int p0), .val (.int p1), .val (.int p2), .val (.int (0 : Int32)), .val (.ref b3), .unset] [(.int (2 : Int32)), (.ref b3)] t
      refine XS.iloadN X9.here hx rfl (hb hby at_46) rfl ?_
      show own_At p e below m T9 47 #[.val (.int p0), .val (.int p1), .val (.int p2), .val (.int (0 : Int32)), .val (.ref b3), .unset] [(.int p2), (.int (2 : Int32)), (.ref b3)] t
      refine XS.i2b X9.here hx rfl (hb hby at_47) rfl ?_
      show own_At p e below m T9 48 #[.val (.int p0), .val (.int p1), .val (.int p2), .val (.int (0 : Int32)), .val (.ref b3), .unset] [(.int (p2.toInt8.toInt32)), (.int (2 : Int32)), (.ref b3)] t
      refine st12 _ ?_
      show own_At p e below m T12 49 #[.val (.int p0), .val (.int p1), .val (.int p2), .val (.int (0 : Int32)), .val (.ref b3), .unset] [] t
      refine XS.aload X12.here hx rfl (hb hby at_49) rfl rfl ?_
      show own_At p e below m T12 51 #[.val (.int p0), .val (.int p1), .val (.int p2), .val (.int (0 : Int32)), .val (.ref b3), .unset] [(.ref b3)] t
      refine st13.trans ?_
      show own_At p e below m T13 54 #[.val (.int p0), .val (.int p1), .val (.int p2), .val (.int (0 : Int32)), .val (.ref b3), .unset] [(.ref b13)] t
      refine XS.astore X13.here hx rfl (hb hby at_54) rfl rfl (l' := #[.val (.int p0), .val (.int p1), .val (.int p2), .val (.int (0 : Int32)), .val (.ref b3), .val (.ref b13)]) rfl ?_
      show own_At p e below m T13 56 #[.val (.int p0), .val (.int p1), .val (.int p2), .val (.int (0 : Int32)), .val (.ref b3), .val (.ref b13)] [] t
      refine XS.aload X13.here hx rfl (hb hby at_56) rfl rfl ?_
      show own_At p e below m T13 58 #[.val (.int p0), .val (.int p1), .val (.int p2), .val (.int (0 : Int32)), .val (.ref b3), .val (.ref b13)] [(.ref b13)] t
      refine XS.ifnonnullYes X13.here hx rfl (pc0 := 58) (pc' := 63) rfl (hb hby at_58) rfl (by decide) (by decide) ?_
      show own_At p e below m T13 63 #[.val (.int p0), .val (.int p1), .val (.int p2), .val (.int (0 : Int32)), .val (.ref b3), .val (.ref b13)] [] t
      refine XS.aload X13.here hx rfl (hb hby at_63) rfl rfl ?_
      show own_At p e below m T13 65 #[.val (.int p0), .val (.int p1), .val (.int p2), .val (.int (0 : Int32)), .val (.ref b3), .val (.ref b13)] [(.ref b13)] t
      refine st14.trans ?_
      show own_At p e below m T14 68 #[.val (.int p0), .val (.int p1), .val (.int p2), .val (.int (0 : Int32)), .val (.ref b3), .val (.ref b13)] [(.ref a_FAILED)] t
      refine st15 _ ?_
      show own_At p e below m T15 71 #[.val (.int p0), .val (.int p1), .val (.int p2), .val (.int (0 : Int32)), .val (.ref b3), .val (.ref b13)] [(.ref a_FAILED), (.ref a_FAILED)] t
      refine Jvm.RoadKit.acmp (g := (mkF m 71 #[.val (.int p0), .val (.int p1), .val (.int p2), .val (.int (0 : Int32)), .val (.ref b3), .val (.ref b13)] [(.ref a_FAILED), (.ref a_FAILED)])) X15 hx rfl rfl rfl (pc0 := 71) (pc' := 76) (same := true) rfl (hb hby at_71) rfl (decide_eq_true rfl) (by decide) (by decide) ?_
      show own_At p e below m T15 76 #[.val (.int p0), .val (.int p1), .val (.int p2), .val (.int (0 : Int32)), .val (.ref b3), .val (.ref b13)] [] t
      refine XS.aload X15.here hx rfl (hb hby at_76) rfl rfl ?_
      show own_At p e below m T15 78 #[.val (.int p0), .val (.int p1), .val (.int p2), .val (.int (0 : Int32)), .val (.ref b3), .val (.ref b13)] [(.ref b13)] t
      refine st16.trans ?_
      show own_At p e below m T16 81 #[.val (.int p0), .val (.int p1), .val (.int p2), .val (.int (0 : Int32)), .val (.ref b3), .val (.ref b13)] [(.ref b3)] t
      refine XS.aload X16.here hx rfl (hb hby at_81) rfl rfl ?_
      show own_At p e below m T16 83 #[.val (.int p0), .val (.int p1), .val (.int p2), .val (.int (0 : Int32)), .val (.ref b3), .val (.ref b13)] [(.ref b3), (.ref b3)] t
      refine Jvm.RoadKit.acmp (g := (mkF m 83 #[.val (.int p0), .val (.int p1), .val (.int p2), .val (.int (0 : Int32)), .val (.ref b3), .val (.ref b13)] [(.ref b3), (.ref b3)])) X16 hx rfl rfl rfl (pc0 := 83) (pc' := 88) (same := true) rfl (hb hby at_83) rfl (decide_eq_true rfl) (by decide) (by decide) ?_
      show own_At p e below m T16 88 #[.val (.int p0), .val (.int p1), .val (.int p2), .val (.int (0 : Int32)), .val (.ref b3), .val (.ref b13)] [] t
      refine XS.iloadN X16.here hx rfl (hb hby at_88) rfl ?_
      show own_At p e below m T16 89 #[.val (.int p0), .val (.int p1), .val (.int p2), .val (.int (0 : Int32)), .val (.ref b3), .val (.ref b13)] [(.int (0 : Int32))] t
      refine XS.ifYes X16.here hx rfl (pc0 := 89) (pc' := 104) rfl (hb hby at_89) rfl ((if0 _ _).trans (teq (by decide : (0 : Int32) = (0 : Int32))).1) (by decide) (by decide) ?_
      show own_At p e below m T16 104 #[.val (.int p0), .val (.int p1), .val (.int p2), .val (.int (0 : Int32)), .val (.ref b3), .val (.ref b13)] [] t
      refine XS.aload X16.here hx rfl (hb hby at_104) rfl rfl ?_
      show own_At p e below m T16 106 #[.val (.int p0), .val (.int p1), .val (.int p2), .val (.int (0 : Int32)), .val (.ref b3), .val (.ref b13)] [(.ref b3)] t
      refine X16.arraylength hx (by rw [hp16]; exact Ar18.1) (State.isArrayOf_alike hZ.alike Ar18.2.1) (g := (mkF m 106 #[.val (.int p0), .val (.int p1), .val (.int p2), .val (.int (0 : Int32)), .val (.ref b3), .val (.ref b13)] [(.ref b3)])) rfl rfl (hb hby at_106) _ ?_
      rw [len_of Sz18 Nn18]
      show own_At p e below m T16 107 #[.val (.int p0), .val (.int p1), .val (.int p2), .val (.int (0 : Int32)), .val (.ref b3), .val (.ref b13)] [(.int (3 : Int32))] t
      refine XS.iconst X16.here hx rfl (hb hby at_107) ?_
      show own_At p e below m T16 108 #[.val (.int p0), .val (.int p1), .val (.int p2), .val (.int (0 : Int32)), .val (.ref b3), .val (.ref b13)] [(.int (3 : Int32)), (.int (3 : Int32))] t
      refine XS.icmpNo X16.here hx rfl (hb hby at_108) rfl (teq (by decide : (3 : Int32) = (3 : Int32))).2 ?_
      show own_At p e below m T16 111 #[.val (.int p0), .val (.int p1), .val (.int p2), .val (.int (0 : Int32)), .val (.ref b3), .val (.ref b13)] [] t
      refine XS.aload X16.here hx rfl (hb hby at_111) rfl rfl ?_
      show own_At p e below m T16 113 #[.val (.int p0), .val (.int p1), .val (.int p2), .val (.int (0 : Int32)), .val (.ref b3), .val (.ref b13)] [(.ref b3)] t
      refine XS.iconst X16.here hx rfl (hb hby at_113) ?_
      show own_At p e below m T16 114 #[.val (.int p0), .val (.int p1), .val (.int p2), .val (.int (0 : Int32)), .val (.ref b3), .val (.ref b13)] [(.int (0 : Int32)), (.ref b3)] t
      refine X16.baloadBytes hx (j := (0 : Int32)) (v := (.int (p0.toInt8.toInt32))) (by rw [hp16]; exact Ar19.1) (State.isArrayOf_alike hZ.alike Ar19.2.1) Ar19.2.2 hin20 hat21 (g := (mkF m 114 #[.val (.int p0), .val (.int p1), .val (.int p2), .val (.int (0 : Int32)), .val (.ref b3), .val (.ref b13)] [(.int (0 : Int32)), (.ref b3)])) rfl rfl (hb hby at_114) _ ?_
      show own_At p e below m T16 115 #[.val (.int p0), .val (.int p1), .val (.int p2), .val (.int (0 : Int32)), .val (.ref b3), .val (.ref b13)] [(.int (p0.toInt8.toInt32))] t
      refine XS.iloadN X16.here hx rfl (hb hby at_115) rfl ?_
      show own_At p e below m T16 116 #[.val (.int p0), .val (.int p1), .val (.int p2), .val (.int (0 : Int32)), .val (.ref b3), .val (.ref b13)] [(.int p0), (.int (p0.toInt8.toInt32))] t
      refine XS.i2b X16.here hx rfl (hb hby at_116) rfl ?_
      show own_At p e below m T16 117 #[.val (.int p0), .val (.int p1), .val (.int p2), .val (.int (0 : Int32)), .val (.ref b3), .val (.ref b13)] [(.int (p0.toInt8.toInt32)), (.int (p0.toInt8.toInt32))] t
      refine XS.icmpNo X16.here hx rfl (hb hby at_117) rfl (teq (rfl : (p0.toInt8.toInt32) = (p0.toInt8.toInt32))).2 ?_
      show own_At p e below m T16 120 #[.val (.int p0), .val (.int p1), .val (.int p2), .val (.int (0 : Int32)), .val (.ref b3), .val (.ref b13)] [] t
      refine XS.aload X16.here hx rfl (hb hby at_120) rfl rfl ?_
      show own_At p e below m T16 122 #[.val (.int p0), .val (.int p1), .val (.int p2), .val (.int (0 : Int32)), .val (.ref b3), .val (.ref b13)] [(.ref b3)] t
      refine XS.iconst X16.here hx rfl (hb hby at_122) ?_
      show own_At p e below m T16 123 #[.val (.int p0), .val (.int p1), .val (.int p2), .val (.int (0 : Int32)), .val (.ref b3), .val (.ref b13)] [(.int (1 : Int32)), (.ref b3)] t
      refine X16.baloadBytes hx (j := (1 : Int32)) (v := (.int (p1.toInt8.toInt32))) (by rw [hp16]; exact Ar22.1) (State.isArrayOf_alike hZ.alike Ar22.2.1) Ar22.2.2 hin23 hat24 (g := (mkF m 123 #[.val (.int p0), .val (.int p1), .val (.int p2), .val (.int (0 : Int32)), .val (.ref b3), .val (.ref b13)] [(.int (1 : Int32)), (.ref b3)])) rfl rfl (hb hby at_123) _ ?_
      show own_At p e below m T16 124 #[.val (.int p0), .val (.int p1), .val (.int p2), .val (.int (0 : Int32)), .val (.ref b3), .val (.ref b13)] [(.int (p1.toInt8.toInt32))] t
      refine XS.iloadN X16.here hx rfl (hb hby at_124) rfl ?_
      show own_At p e below m T16 125 #[.val (.int p0), .val (.int p1), .val (.int p2), .val (.int (0 : Int32)), .val (.ref b3), .val (.ref b13)] [(.int p1), (.int (p1.toInt8.toInt32))] t
      refine XS.i2b X16.here hx rfl (hb hby at_125) rfl ?_
      show own_At p e below m T16 126 #[.val (.int p0), .val (.int p1), .val (.int p2), .val (.int (0 : Int32)), .val (.ref b3), .val (.ref b13)] [(.int (p1.toInt8.toInt32)), (.int (p1.toInt8.toInt32))] t
      refine XS.icmpNo X16.here hx rfl (hb hby at_126) rfl (teq (rfl : (p1.toInt8.toInt32) = (p1.toInt8.toInt32))).2 ?_
      show own_At p e below m T16 129 #[.val (.int p0), .val (.int p1), .val (.int p2), .val (.int (0 : Int32)), .val (.ref b3), .val (.ref b13)] [] t
      refine XS.aload X16.here hx rfl (hb hby at_129) rfl rfl ?_
      show own_At p e below m T16 131 #[.val (.int p0), .val (.int p1), .val (.int p2), .val (.int (0 : Int32)), .val (.ref b3), .val (.ref b13)] [(.ref b3)] t
      refine XS.iconst X16.here hx rfl (hb hby at_131) ?_
      show own_At p e below m T16 132 #[.val (.int p0), .val (.int p1), .val (.int p2), .val (.int (0 : Int32)), .val (.ref b3), .val (.ref b13)] [(.int (2 : Int32)), (.ref b3)] t
      refine X16.baloadBytes hx (j := (2 : Int32)) (v := (.int (p2.toInt8.toInt32))) (by rw [hp16]; exact Ar25.1) (State.isArrayOf_alike hZ.alike Ar25.2.1) Ar25.2.2 hin26 hat27 (g := (mkF m 132 #[.val (.int p0), .val (.int p1), .val (.int p2), .val (.int (0 : Int32)), .val (.ref b3), .val (.ref b13)] [(.int (2 : Int32)), (.ref b3)])) rfl rfl (hb hby at_132) _ ?_
      show own_At p e below m T16 133 #[.val (.int p0), .val (.int p1), .val (.int p2), .val (.int (0 : Int32)), .val (.ref b3), .val (.ref b13)] [(.int (p2.toInt8.toInt32))] t
      refine XS.iloadN X16.here hx rfl (hb hby at_133) rfl ?_
      show own_At p e below m T16 134 #[.val (.int p0), .val (.int p1), .val (.int p2), .val (.int (0 : Int32)), .val (.ref b3), .val (.ref b13)] [(.int p2), (.int (p2.toInt8.toInt32))] t
      refine XS.i2b X16.here hx rfl (hb hby at_134) rfl ?_
      show own_At p e below m T16 135 #[.val (.int p0), .val (.int p1), .val (.int p2), .val (.int (0 : Int32)), .val (.ref b3), .val (.ref b13)] [(.int (p2.toInt8.toInt32)), (.int (p2.toInt8.toInt32))] t
      refine XS.icmpNo X16.here hx rfl (hb hby at_135) rfl (teq (rfl : (p2.toInt8.toInt32) = (p2.toInt8.toInt32))).2 ?_
      show own_At p e below m T16 138 #[.val (.int p0), .val (.int p1), .val (.int p2), .val (.int (0 : Int32)), .val (.ref b3), .val (.ref b13)] [] t
      refine XS.iconst X16.here hx rfl (hb hby at_138) ?_
      show own_At p e below m T16 139 #[.val (.int p0), .val (.int p1), .val (.int p2), .val (.int (0 : Int32)), .val (.ref b3), .val (.ref b13)] [(.int (1 : Int32))] t
      refine XS.goto X16.here hx rfl (pc0 := 139) (pc' := 143) rfl (hb hby at_139) (by decide) (by decide) ?_
      show own_At p e below m T16 143 #[.val (.int p0), .val (.int p1), .val (.int p2), .val (.int (0 : Int32)), .val (.ref b3), .val (.ref b13)] [(.int (1 : Int32))] t
      exact k
    obtain ⟨fs, hr, hrun, hended, hRW⟩ := X16.leaveW hS (by rw [hp16]; exact (Nat.le_refl _)) (v := some (.int (1 : Int32))) (fun h => by rw [Bd.returns] at h; cases h)
    refine hNG ⟨_, _, k28 _ ?_, hrun, hended, _, _, rfl, ?_, hRW.1, hRW.2.1, hRW.2.2.1, hRW.2.2.2.mono (by decide) (by decide)⟩
    · exact retN X16 hx (t := .boolean) Bd.returns (by simp) (hb hby at_143) hr
    · show Q_law Z p0 p1 p2 a_FAILED h0 n0 _ T16.heap _
      rw [hp16]
      exact ⟨rfl, N16⟩
  · obtain ⟨T29, h29, c29, X29, e29, E29, A29, st29⟩ := newP X0 hx hZ (own_w hw 0 rfl) e0 (g := (mkF m 17 #[.val (.int p0), .val (.int p1), .val (.int p2), .val (.int (1 : Int32)), .unset, .unset] [(.int (0 : Int32))])) rfl (hb hby at_17) rfl (by decide) (cap := 0) (by decide) (by decide) (by decide) (by decide)
    obtain ⟨b29, g29⟩ : ∃ z, z = h0.size := ⟨_, rfl⟩
    rw [← g29] at A29 st29
    have O29 := O0.ext E29
    have g_b29 : n0 ≤ b29 := Nat.le_trans (Nat.le_of_eq O0.1.symm) (Nat.le_trans O0.2.1 (Nat.le_of_eq g29.symm))
    have s_b29 : h0.size ≤ b29 := Nat.le_trans K0.1 (Nat.le_of_eq g29.symm)
    have K29 := K0.ext E29
    have V29 : Arv Z h29 b29 c29 .byte (0 : Int32) [] (.int (0 : Int32)) := (Arv.new A29 (by decide)).pad (pad_rep [] (.int (0 : Int32)) 0)
    have lt_b29 := V29.lt
    obtain ⟨_, _, ⟨T30, L30, k30, n30⟩, -, X30, hS30, hg30, ⟨Lc30, hQ30, l30, y30, z30⟩, st30⟩ := callSS X29 hx (y := own_m3) hown (mvT hZ (own_w hw 1 rfl)) (mvT hZ (own_w hw 2 rfl)) (mvT hZ (own_w hw 3 rfl)) (mvT hZ (own_w hw 4 rfl)) (by decide) (backOfS (W := 0) (rm_dn l Z a0 hw [] b29 _ h29 n0 O29 hE  ) hZ (own_w hw 4 rfl) (own_w hw 3 rfl) (by decide) (by decide)) (g := (mkF m 51 #[.val (.int p0), .val (.int p1), .val (.int p2), .val (.int (1 : Int32)), .val (.ref b29), .unset] [(.ref b29)])) rfl (by rw [hml]; rfl) (argsL := [(.ref b29)]) (rest := []) (lenOf pd___B_Lcom_example_attenuation_attenuation_core_Outcome_ rfl) rfl (by show 2 * 0 + _ ≤ _; exact Nat.le_of_eq rfl) (hb hby at_51) (fun _ _ => ⟨rfl, e29, (by decide : 1 + 5 ≤ _), (by decide : 0 + 50 ≤ _)⟩)
    dsimp only [Pt.U, Pt.locs, Pt.cells, Pt.slots] at X30 l30 y30 z30 st30 hQ30 hS30 hg30
    subst l30 y30 z30
    obtain ⟨X30, hS, hZ, hown⟩ := rebS hS (by rw [e29]; exact (Nat.le_trans (Nat.zero_le _) E29.1)) X30 hS30 hg30 hZ hown
    obtain ⟨b30, rfl, N30q, O30, Kc30, g_b30, gs_b30, F30_0, F30_1, F30_2⟩ := hQ30
    have N30 := Fr.app N0 N30q
    have K30 := K29.trans Kc30 (fun x hx => nomatch hx)
    have s_b30 := Nat.le_trans K29.1 gs_b30
    have lt_b30 := F30_0.lt
    obtain ⟨cq31, kq31, q31a, q31b, q31c⟩ := isOf hZ rfl F30_0
    obtain ⟨_, _, ⟨T31, L31, k31, n31⟩, -, X31, ⟨Lc31, hQ31, l31, y31, z31⟩, st31⟩ := X30.virtualBack hx (y := own_m4) (z := own_m4) hown (mvT hZ (own_w hw 37 rfl)) (mvT hZ (own_w hw 38 rfl)) (notFace_of_selects (args := #[]) (mvT hZ (own_w hw 40 rfl))) (mvT hZ (own_w hw 40 rfl)) (mvT hZ (own_w hw 39 rfl)) (by decide) (backOf (W := 0) (rm_gs l Z a0 hw [] b30 a_FAILED _ T30.heap n0 O30 hE F30_1 ) hZ (own_w hw 41 rfl) (own_w hw 3 rfl) (by decide) (by decide)) q31a q31c (g := (mkF m 65 #[.val (.int p0), .val (.int p1), .val (.int p2), .val (.int (1 : Int32)), .val (.ref b29), .val (.ref b30)] [(.ref b30)])) rfl (by rw [hml]; rfl) (Steps.refl _) (argsL := []) (rest := []) (lenOf pd___Lcom_example_attenuation_attenuation_core_Outcome_Status_ rfl) rfl (by show 2 * 0 + _ ≤ _; exact Nat.le_of_eq rfl) (hb hby at_65) (fun _ _ => ⟨rfl, rfl, (by decide : 6 + 0 ≤ _), (by decide : 50 + 0 ≤ _)⟩)
    dsimp only [Pt.U, Pt.locs, Pt.cells, Pt.slots] at X31 l31 y31 z31 st31 hQ31
    subst l31 y31 z31
    obtain ⟨rfl, N31q, hp31⟩ := hQ31
    have N31 := Fr.app N30 N31q
    obtain ⟨T32, X32, e32, st32⟩ := getS2 X31 hx hZ hown (host := "") (Or.inl (own_w hw 42 rfl)) Via.refl hp31 (S_FAILED.ext O30.2) (g := (mkF m 68 #[.val (.int p0), .val (.int p1), .val (.int p2), .val (.int (1 : Int32)), .val (.ref b29), .val (.ref b30)] [(.ref a_FAILED)])) rfl (hb hby at_68)
    obtain ⟨cq33, kq33, q33a, q33b, q33c⟩ := isOf hZ e32 F30_0
    obtain ⟨_, _, ⟨T33, L33, k33, n33⟩, -, X33, ⟨Lc33, hQ33, l33, y33, z33⟩, st33⟩ := X32.virtualBack hx (y := own_m5) (z := own_m5) hown (mvT hZ (own_w hw 43 rfl)) (mvT hZ (own_w hw 44 rfl)) (notFace_of_selects (args := #[]) (mvT hZ (own_w hw 46 rfl))) (mvT hZ (own_w hw 46 rfl)) (mvT hZ (own_w hw 45 rfl)) (by decide) (backOf (W := 0) (rm_gb l Z a0 hw [] b30 b29 _ T30.heap n0 O30 hE F30_2 ) hZ (own_w hw 47 rfl) (own_w hw 3 rfl) (by decide) (by decide)) q33a q33c (g := (mkF m 78 #[.val (.int p0), .val (.int p1), .val (.int p2), .val (.int (1 : Int32)), .val (.ref b29), .val (.ref b30)] [(.ref b30)])) rfl (by rw [hml]; rfl) (Steps.refl _) (argsL := []) (rest := []) (lenOf pd____B rfl) rfl (by show 2 * 0 + _ ≤ _; exact Nat.le_of_eq rfl) (hb hby at_78) (fun _ _ => ⟨rfl, e32, (by decide : 6 + 0 ≤ _), (by decide : 50 + 0 ≤ _)⟩)
    dsimp only [Pt.U, Pt.locs, Pt.cells, Pt.slots] at X33 l33 y33 z33 st33 hQ33
    subst l33 y33 z33
    obtain ⟨rfl, N33q, hp33⟩ := hQ33
    have N33 := Fr.app N31 N33q
    have f34 := (V29.keep Kc30 List.not_mem_nil)
    obtain ⟨cl35, Ar35, q35, Sz35, Nn35, Hs35, Gf35⟩ := id f34
    have k36 : ∀ t, own_At p e below m T33 103 #[.val (.int p0), .val (.int p1), .val (.int p2), .val (.int (1 : Int32)), .val (.ref b29), .val (.ref b30)] [(.int (1 : Int32))] t → own_En p e below m s₁ #[(.int p0), (.int p1), (.int p2)] maxLocals t := by
      intro t k
      refine k1 t ?_
      refine XS.ifNo X0.here hx rfl (hb hby at_3) rfl ((if0 _ _).trans (feq hc2).1) ?_
      show own_At p e below m s₁ 6 #[.val (.int p0), .val (.int p1), .val (.int p2), .unset, .unset, .unset] [] t
      refine XS.iconst X0.here hx rfl (hb hby at_6) ?_
      show own_At p e below m s₁ 7 #[.val (.int p0), .val (.int p1), .val (.int p2), .unset, .unset, .unset] [(.int (1 : Int32))] t
      refine XS.goto X0.here hx rfl (pc0 := 7) (pc' := 11) rfl (hb hby at_7) (by decide) (by decide) ?_
      show own_At p e below m s₁ 11 #[.val (.int p0), .val (.int p1), .val (.int p2), .unset, .unset, .unset] [(.int (1 : Int32))] t
      refine XS.istoreN X0.here hx rfl (hb hby at_11) rfl (l' := #[.val (.int p0), .val (.int p1), .val (.int p2), .val (.int (1 : Int32)), .unset, .unset]) rfl ?_
      show own_At p e below m s₁ 12 #[.val (.int p0), .val (.int p1), .val (.int p2), .val (.int (1 : Int32)), .unset, .unset] [] t
      refine XS.iloadN X0.here hx rfl (hb hby at_12) rfl ?_
      show own_At p e below m s₁ 13 #[.val (.int p0), .val (.int p1), .val (.int p2), .val (.int (1 : Int32)), .unset, .unset] [(.int (1 : Int32))] t
      refine XS.ifNo X0.here hx rfl (hb hby at_13) rfl ((if0 _ _).trans (feq (by decide : ¬ ((1 : Int32) = (0 : Int32)))).1) ?_
      show own_At p e below m s₁ 16 #[.val (.int p0), .val (.int p1), .val (.int p2), .val (.int (1 : Int32)), .unset, .unset] [] t
      refine XS.iconst X0.here hx rfl (hb hby at_16) ?_
      show own_At p e below m s₁ 17 #[.val (.int p0), .val (.int p1), .val (.int p2), .val (.int (1 : Int32)), .unset, .unset] [(.int (0 : Int32))] t
      refine st29 _ ?_
      show own_At p e below m T29 19 #[.val (.int p0), .val (.int p1), .val (.int p2), .val (.int (1 : Int32)), .unset, .unset] [(.ref b29)] t
      refine XS.goto X29.here hx rfl (pc0 := 19) (pc' := 25) rfl (hb hby at_19) (by decide) (by decide) ?_
      show own_At p e below m T29 25 #[.val (.int p0), .val (.int p1), .val (.int p2), .val (.int (1 : Int32)), .unset, .unset] [(.ref b29)] t
      refine XS.astore X29.here hx rfl (hb hby at_25) rfl rfl (l' := #[.val (.int p0), .val (.int p1), .val (.int p2), .val (.int (1 : Int32)), .val (.ref b29), .unset]) rfl ?_
      show own_At p e below m T29 27 #[.val (.int p0), .val (.int p1), .val (.int p2), .val (.int (1 : Int32)), .val (.ref b29), .unset] [] t
      refine XS.iloadN X29.here hx rfl (hb hby at_27) rfl ?_
      show own_At p e below m T29 28 #[.val (.int p0), .val (.int p1), .val (.int p2), .val (.int (1 : Int32)), .val (.ref b29), .unset] [(.int (1 : Int32))] t
      refine XS.ifYes X29.here hx rfl (pc0 := 28) (pc' := 49) rfl (hb hby at_28) rfl ((if0 _ _).trans (feq (by decide : ¬ ((1 : Int32) = (0 : Int32)))).2) (by decide) (by decide) ?_
      show own_At p e below m T29 49 #[.val (.int p0), .val (.int p1), .val (.int p2), .val (.int (1 : Int32)), .val (.ref b29), .unset] [] t
      refine XS.aload X29.here hx rfl (hb hby at_49) rfl rfl ?_
      show own_At p e below m T29 51 #[.val (.int p0), .val (.int p1), .val (.int p2), .val (.int (1 : Int32)), .val (.ref b29), .unset] [(.ref b29)] t
      refine st30.trans ?_
      show own_At p e below m T30 54 #[.val (.int p0), .val (.int p1), .val (.int p2), .val (.int (1 : Int32)), .val (.ref b29), .unset] [(.ref b30)] t
      refine XS.astore X30.here hx rfl (hb hby at_54) rfl rfl (l' := #[.val (.int p0), .val (.int p1), .val (.int p2), .val (.int (1 : Int32)), .val (.ref b29), .val (.ref b30)]) rfl ?_
      show own_At p e below m T30 56 #[.val (.int p0), .val (.int p1), .val (.int p2), .val (.int (1 : Int32)), .val (.ref b29), .val (.ref b30)] [] t
      refine XS.aload X30.here hx rfl (hb hby at_56) rfl rfl ?_
      show own_At p e below m T30 58 #[.val (.int p0), .val (.int p1), .val (.int p2), .val (.int (1 : Int32)), .val (.ref b29), .val (.ref b30)] [(.ref b30)] t
      refine XS.ifnonnullYes X30.here hx rfl (pc0 := 58) (pc' := 63) rfl (hb hby at_58) rfl (by decide) (by decide) ?_
      show own_At p e below m T30 63 #[.val (.int p0), .val (.int p1), .val (.int p2), .val (.int (1 : Int32)), .val (.ref b29), .val (.ref b30)] [] t
      refine XS.aload X30.here hx rfl (hb hby at_63) rfl rfl ?_
      show own_At p e below m T30 65 #[.val (.int p0), .val (.int p1), .val (.int p2), .val (.int (1 : Int32)), .val (.ref b29), .val (.ref b30)] [(.ref b30)] t
      refine st31.trans ?_
      show own_At p e below m T31 68 #[.val (.int p0), .val (.int p1), .val (.int p2), .val (.int (1 : Int32)), .val (.ref b29), .val (.ref b30)] [(.ref a_FAILED)] t
      refine st32 _ ?_
      show own_At p e below m T32 71 #[.val (.int p0), .val (.int p1), .val (.int p2), .val (.int (1 : Int32)), .val (.ref b29), .val (.ref b30)] [(.ref a_FAILED), (.ref a_FAILED)] t
      refine Jvm.RoadKit.acmp (g := (mkF m 71 #[.val (.int p0), .val (.int p1), .val (.int p2), .val (.int (1 : Int32)), .val (.ref b29), .val (.ref b30)] [(.ref a_FAILED), (.ref a_FAILED)])) X32 hx rfl rfl rfl (pc0 := 71) (pc' := 76) (same := true) rfl (hb hby at_71) rfl (decide_eq_true rfl) (by decide) (by decide) ?_
      show own_At p e below m T32 76 #[.val (.int p0), .val (.int p1), .val (.int p2), .val (.int (1 : Int32)), .val (.ref b29), .val (.ref b30)] [] t
      refine XS.aload X32.here hx rfl (hb hby at_76) rfl rfl ?_
      show own_At p e below m T32 78 #[.val (.int p0), .val (.int p1), .val (.int p2), .val (.int (1 : Int32)), .val (.ref b29), .val (.ref b30)] [(.ref b30)] t
      refine st33.trans ?_
      show own_At p e below m T33 81 #[.val (.int p0), .val (.int p1), .val (.int p2), .val (.int (1 : Int32)), .val (.ref b29), .val (.ref b30)] [(.ref b29)] t
      refine XS.aload X33.here hx rfl (hb hby at_81) rfl rfl ?_
      show own_At p e below m T33 83 #[.val (.int p0), .val (.int p1), .val (.int p2), .val (.int (1 : Int32)), .val (.ref b29), .val (.ref b30)] [(.ref b29), (.ref b29)] t
      refine Jvm.RoadKit.acmp (g := (mkF m 83 #[.val (.int p0), .val (.int p1), .val (.int p2), .val (.int (1 : Int32)), .val (.ref b29), .val (.ref b30)] [(.ref b29), (.ref b29)])) X33 hx rfl rfl rfl (pc0 := 83) (pc' := 88) (same := true) rfl (hb hby at_83) rfl (decide_eq_true rfl) (by decide) (by decide) ?_
      show own_At p e below m T33 88 #[.val (.int p0), .val (.int p1), .val (.int p2), .val (.int (1 : Int32)), .val (.ref b29), .val (.ref b30)] [] t
      refine XS.iloadN X33.here hx rfl (hb hby at_88) rfl ?_
      show own_At p e below m T33 89 #[.val (.int p0), .val (.int p1), .val (.int p2), .val (.int (1 : Int32)), .val (.ref b29), .val (.ref b30)] [(.int (1 : Int32))] t
      refine XS.ifNo X33.here hx rfl (hb hby at_89) rfl ((if0 _ _).trans (feq (by decide : ¬ ((1 : Int32) = (0 : Int32)))).1) ?_
      show own_At p e below m T33 92 #[.val (.int p0), .val (.int p1), .val (.int p2), .val (.int (1 : Int32)), .val (.ref b29), .val (.ref b30)] [] t
      refine XS.aload X33.here hx rfl (hb hby at_92) rfl rfl ?_
      show own_At p e below m T33 94 #[.val (.int p0), .val (.int p1), .val (.int p2), .val (.int (1 : Int32)), .val (.ref b29), .val (.ref b30)] [(.ref b29)] t
      refine X33.arraylength hx (by rw [hp33]; exact Ar35.1) (State.isArrayOf_alike hZ.alike Ar35.2.1) (g := (mkF m 94 #[.val (.int p0), .val (.int p1), .val (.int p2), .val (.int (1 : Int32)), .val (.ref b29), .val (.ref b30)] [(.ref b29)])) rfl rfl (hb hby at_94) _ ?_
      rw [len_of Sz35 Nn35]
      show own_At p e below m T33 95 #[.val (.int p0), .val (.int p1), .val (.int p2), .val (.int (1 : Int32)), .val (.ref b29), .val (.ref b30)] [(.int (0 : Int32))] t
      refine XS.ifNo X33.here hx rfl (hb hby at_95) rfl ((if0 _ _).trans (teq (by decide : (0 : Int32) = (0 : Int32))).2) ?_
      show own_At p e below m T33 98 #[.val (.int p0), .val (.int p1), .val (.int p2), .val (.int (1 : Int32)), .val (.ref b29), .val (.ref b30)] [] t
      refine XS.iconst X33.here hx rfl (hb hby at_98) ?_
      show own_At p e below m T33 99 #[.val (.int p0), .val (.int p1), .val (.int p2), .val (.int (1 : Int32)), .val (.ref b29), .val (.ref b30)] [(.int (1 : Int32))] t
      refine XS.goto X33.here hx rfl (pc0 := 99) (pc' := 103) rfl (hb hby at_99) (by decide) (by decide) ?_
      show own_At p e below m T33 103 #[.val (.int p0), .val (.int p1), .val (.int p2), .val (.int (1 : Int32)), .val (.ref b29), .val (.ref b30)] [(.int (1 : Int32))] t
      exact k
    obtain ⟨fs, hr, hrun, hended, hRW⟩ := X33.leaveW hS (by rw [hp33]; exact (Nat.le_refl _)) (v := some (.int (1 : Int32))) (fun h => by rw [Bd.returns] at h; cases h)
    refine hNG ⟨_, _, k36 _ ?_, hrun, hended, _, _, rfl, ?_, hRW.1, hRW.2.1, hRW.2.2.1, hRW.2.2.2.mono (by decide) (by decide)⟩
    · exact retN X33 hx (t := .boolean) Bd.returns (by simp) (hb hby at_103) hr
    · show Q_law Z p0 p1 p2 a_FAILED h0 n0 _ T33.heap _
      rw [hp33]
      exact ⟨rfl, N33⟩
set_option maxRecDepth 65536 in
set_option maxHeartbeats 40000000 in
theorem comes_1 {Post : Tables → Env → Array Value → State → Outcome → State → Prop} (hpost : ∀ tb e args s v u, (limb_1_1.after args s (.returned v) u = true ∧ limb_1_2.after args s (.returned v) u = true ∧ True) → ReturnedEndW s (.returned v) u (Jvm.fieldLocs frame_1_writes args s ++ Jvm.arrayLocs frame_1_arrays args s ++ Jvm.staticLocs frame_1_statics s) 16 2176 → Post tb e args s (.returned v) u) :
    ArmFor flags0 classFile x code maxLocals ret World_1 tables_1 room_1 Calls_1 rest_1 Pre_1 Post := by
  intro l hfl _ _ p e ha hc hk s m args below hf hA hF happ hP
  obtain ⟨hcalls, hrest, hpre⟩ := hP
  obtain ⟨-, -, -, hnamed, -, -, -, hat⟩ := (Spec.applies_iff hf).mp happ
  obtain ⟨hg, hn⟩ := and_e (Cond.before_iff.mp (show (Jvm.Cond.and given_1 narrow_1).before args s = true from hpre))
  obtain ⟨g0a, g0b⟩ := and_e hg
  obtain ⟨g1a, g1b⟩ := and_e g0b
  obtain ⟨g2a, g2b⟩ := and_e g1b
  obtain ⟨w0, w1, w2, rfl⟩ : ∃ w0 w1 w2 : Value, args = #[w0, w1, w2] := by
    have hs : args.size = 3 := by simpa [Cond.value, given_1] using g0a
    obtain ⟨L⟩ := args
    match L, hs with
    | [w0, w1, w2], _ => exact ⟨w0, w1, w2, rfl⟩
  have hw := fun d (hd : d ∈ tables_1) => atoms_spec (ws := Jvm.Cond.code x code maxLocals ret :: tables_1) hat d (List.mem_cons_of_mem _ hd)
  have hfit : Fit s := fun {y c} hc i hi => by
    obtain ⟨ha, rfl⟩ := Array.getElem?_eq_some_iff.mp hc
    have q := List.all_eq_true.mp ((Array.all_eq_true_iff_forall_mem.mp hF) _ (Array.getElem_mem ha)) i (List.mem_range.mpr hi)
    simpa [Array.getElem?_eq_getElem hi] using q
  obtain ⟨i0, ei0⟩ := is_v g1a
  obtain rfl : w0 = (.int i0) := Option.some.inj ei0
  obtain ⟨i1, ei1⟩ := is_v g2a
  obtain rfl : w1 = (.int i1) := Option.some.inj ei1
  obtain ⟨i2, ei2⟩ := is_v g2b
  obtain rfl : w2 = (.int i2) := Option.some.inj ei2
  obtain ⟨a_FAILED, v_a_FAILED⟩ := exa_v hn
  have S_FAILED := Sta.start v_a_FAILED (Or.inr ⟨(own_w hw 8 rfl), (own_w hw 9 rfl)⟩)
  have E_FAILED := Exa.start v_a_FAILED hn
  obtain ⟨n, o, h1, h2, h3, _, L, rfl, ⟨rfl, N⟩, hq⟩ := rm_law l s _ hw tables_1 i0 i1 i2 a_FAILED s.heap s.heap.size (Old.start s) ⟨S_FAILED, E_FAILED⟩  p e ha hc hk s m _ below hf ((Spec.applies_iff_loose hf).mp happ).1 ⟨rfl, State.Warmed39.refl s, rfl⟩ trivial
  refine ⟨n, _, h1, h2, h3, hpost _ _ _ _ _ _ ⟨Cond.after_iff.mpr rfl, Cond.after_iff.mpr (eq_i res_at (Term.int_eval (1)) rfl), trivial⟩ ⟨hq.1, hq.2.1, hq.2.2.1, (hq.2.2.2.sift fun y hy => Or.inr (N y hy)).mono (by decide) (by decide)⟩⟩
theorem main_1_1 : Claimed_1_1 := comes_1 fun _ _ _ _ _ _ h hF => ⟨h.1, hF⟩
theorem main_1_2 : Claimed_1_2 := comes_1 fun _ _ _ _ _ _ h hF => ⟨h.2.1, hF⟩
end Jvm.Pilot.@@N@@
namespace Jvm.Pilot.@@N@@
open Jvm Jvm.ClassFile Sem Op Lib Jvm.Free Jvm.Stand Jvm.Pilot.@@N@@.Jvm.D
/-! MADE BY PROGRAM (witnessworld.py) out of the Statement's table words and the real class files: 18 classes; the members and pool entries that the words name. The judged class is class 1, her method 1. -/
namespace start1
open Jvm.ClassFile
def u (s : String) : CpInfo := .utf8 (stringToUtf16 s)
/-- a pool by its gaps: so many unusable entries, then the entry; so many at the end -/
def gap : Nat → List CpInfo → List CpInfo
  | 0, r => r
  | n + 1, r => .unusable :: gap n r
def poolList (es : List (Nat × CpInfo)) (last : Nat) : List CpInfo := es.foldr (fun e r => gap e.1 (e.2 :: r)) (gap last [])
def pool (es : List (Nat × CpInfo)) (last : Nat) : Array CpInfo := ⟨poolList es last⟩
def fileOf (pool : Array CpInfo) (this : Nat) (attrs : Array Attribute := #[]) (ms : Array MethodInfo := #[]) (fl : Nat := 33) (sup : Nat := 0) (ifs : Array Nat := #[]) (fds : Array FieldInfo := #[]) : ClassFile where
  minorVersion := 0
  majorVersion := 65
  constantPool := pool
  accessFlags := fl
  thisClass := this
  superClass := sup
  interfaces := ifs
  fields := fds
  methods := ms
  attributes := attrs
def plain (name : String) (sup : Option ClassId) : Class where
  name := name
  kind := .ordinary
  loader := none
  accessFlags := 33
  super := sup
  interfaces := #[]
  cf := none
  fields := #[]
  methods := #[]
  instanceTypes := #[]
  staticTypes := #[]
  resolved := #[]
  callSites := []
  init := .initialized
  statics := none
  mirror := none

def pool0 : Array CpInfo := pool [(5, u "<init>"), (0, u "()V"), (1, .class_ 10), (1, u "java/lang/Object")] 113

def k0c0 : Code := { maxStack := 0, maxLocals := 1, code := object_method_1_code, exceptionTable := #[], attributes := #[] }
def k0m0 : Method := { name := "<init>", desc := "()V", sig := { parameters := [], returnType := none }, accessFlags := 1, code := some k0c0 }
/-- java/lang/Object -/
def k0 : Class := { plain "java/lang/Object" none with
  accessFlags := 33
  interfaces := #[]
  cf := some (fileOf pool0 8 #[] #[{ accessFlags := 1, nameIndex := 5, descriptorIndex := 6, attributes := #[] }] 33 0 #[] #[])
  fields := #[]
  methods := #[k0m0]
  instanceTypes := #[]
  staticTypes := #[]
  resolved := Array.replicate 124 none
  statics := none }

def pool1 : Array CpInfo := pool [(2, .class_ 4), (1, u "java/lang/Object"), (0, u "<init>"), (0, u "()V"), (0, .methodref 8 9), (0, .class_ 10), (0, .nameAndType 11 12), (0, u "com/example/attenuation/attenuation/core/Outcome"), (0, u "failed"), (0, u "([B)Lcom/example/attenuation/attenuation/core/Outcome;"), (0, .methodref 8 14), (0, .nameAndType 15 16), (0, u "status"), (0, u "()Lcom/example/attenuation/attenuation/core/Outcome$Status;"), (0, .fieldref 18 19), (0, .class_ 20), (0, .nameAndType 21 22), (0, u "com/example/attenuation/attenuation/core/Outcome$Status"), (0, u "FAILED"), (0, u "Lcom/example/attenuation/attenuation/core/Outcome$Status;"), (0, .methodref 8 24), (0, .nameAndType 25 26), (0, u "body"), (0, u "()[B"), (0, .class_ 28), (0, u "com/example/attenuation/attenuation/core/OutcomeFailedPinLaw"), (2, u "law"), (0, u "(III)Z")] 7

def k1m0 : Method := { name := "<init>", desc := "()V", sig := { parameters := [], returnType := none }, accessFlags := 1, code := none }
def k1c1 : Code := { maxStack := 3, maxLocals := 6, code := code, exceptionTable := #[], attributes := #[] }
def k1m1 : Method := { name := "law", desc := "(III)Z", sig := { parameters := [.int, .int, .int], returnType := some .boolean }, accessFlags := 9, code := some k1c1 }
/-- com/example/attenuation/attenuation/core/OutcomeFailedPinLaw -/
def k1 : Class := { plain "com/example/attenuation/attenuation/core/OutcomeFailedPinLaw" (some 0) with
  accessFlags := 49
  interfaces := #[]
  cf := some (fileOf pool1 27 #[] #[{ accessFlags := 1, nameIndex := 5, descriptorIndex := 6, attributes := #[] }, { accessFlags := 9, nameIndex := 31, descriptorIndex := 32, attributes := #[] }] 49 2 #[] #[])
  fields := #[]
  methods := #[k1m0, k1m1]
  instanceTypes := #[]
  staticTypes := #[]
  resolved := Array.replicate 40 none
  statics := none }

def pool2 : Array CpInfo := pool [(1, .methodref 2 3), (0, .class_ 4), (0, .nameAndType 5 6), (0, u "java/lang/Object"), (0, u "<init>"), (0, u "()V"), (0, .class_ 8), (0, u "java/lang/Record")] 13

def k2c0 : Code := { maxStack := 1, maxLocals := 1, code := jdk_30_method_1_code, exceptionTable := #[], attributes := #[] }
def k2m0 : Method := { name := "<init>", desc := "()V", sig := { parameters := [], returnType := none }, accessFlags := 4, code := some k2c0 }
/-- java/lang/Record -/
def k2 : Class := { plain "java/lang/Record" (some 0) with
  accessFlags := 1057
  interfaces := #[]
  cf := some (fileOf pool2 7 #[] #[{ accessFlags := 4, nameIndex := 5, descriptorIndex := 6, attributes := #[] }] 1057 2 #[] #[])
  fields := #[]
  methods := #[k2m0]
  instanceTypes := #[]
  staticTypes := #[]
  resolved := Array.replicate 22 none
  statics := none }

def pool3 : Array CpInfo := pool [(1, .methodref 2 3), (0, .class_ 4), (0, .nameAndType 5 6), (0, u "java/lang/Record"), (0, u "<init>"), (0, u "()V"), (0, .string 8), (0, u "status"), (0, .methodref 10 11), (0, .class_ 12), (0, .nameAndType 13 14), (0, u "java/util/Objects"), (0, u "requireNonNull"), (0, u "(Ljava/lang/Object;Ljava/lang/String;)Ljava/lang/Object;"), (0, .string 16), (0, u "body"), (0, .fieldref 18 19), (0, .class_ 20), (0, .nameAndType 8 21), (0, u "com/example/attenuation/attenuation/core/Outcome"), (0, u "Lcom/example/attenuation/attenuation/core/Outcome$Status;"), (0, .fieldref 18 23), (0, .nameAndType 16 24), (0, u "[B"), (1, .class_ 28), (1, u "com/example/attenuation/attenuation/core/Outcome$Status"), (1, .methodref 18 31), (0, .nameAndType 5 32), (0, u "(Lcom/example/attenuation/attenuation/core/Outcome$Status;[B)V"), (22, .fieldref 26 56), (0, .nameAndType 57 21), (0, u "FAILED"), (2, u "failed"), (0, u "([B)Lcom/example/attenuation/attenuation/core/Outcome;"), (87, u "WHY_LACKING"), (0, u "Ljava/util/regex/Pattern;"), (60, u "LACKING"), (0, u "Ljava/lang/String;"), (1, u "APP_SEPARATOR"), (0, u "REDUCED_BY"), (2, u "OWN_BEHALF"), (17, u "()Lcom/example/attenuation/attenuation/core/Outcome$Status;"), (0, u "()[B")] 44

def k3c0 : Code := { maxStack := 2, maxLocals := 3, code := prog_16_method_1_code, exceptionTable := #[], attributes := #[] }
def k3m0 : Method := { name := "<init>", desc := "(Lcom/example/attenuation/attenuation/core/Outcome$Status;[B)V", sig := { parameters := [(.object "com/example/attenuation/attenuation/core/Outcome$Status"), (.array .byte)], returnType := none }, accessFlags := 1, code := some k3c0 }
def k3c1 : Code := { maxStack := 4, maxLocals := 1, code := prog_16_method_5_code, exceptionTable := #[], attributes := #[] }
def k3m1 : Method := { name := "failed", desc := "([B)Lcom/example/attenuation/attenuation/core/Outcome;", sig := { parameters := [(.array .byte)], returnType := some (.object "com/example/attenuation/attenuation/core/Outcome") }, accessFlags := 9, code := some k3c1 }
def k3c2 : Code := { maxStack := 1, maxLocals := 1, code := prog_16_method_15_code, exceptionTable := #[], attributes := #[] }
def k3m2 : Method := { name := "status", desc := "()Lcom/example/attenuation/attenuation/core/Outcome$Status;", sig := { parameters := [], returnType := some (.object "com/example/attenuation/attenuation/core/Outcome$Status") }, accessFlags := 1, code := some k3c2 }
def k3c3 : Code := { maxStack := 1, maxLocals := 1, code := prog_16_method_16_code, exceptionTable := #[], attributes := #[] }
def k3m3 : Method := { name := "body", desc := "()[B", sig := { parameters := [], returnType := some (.array .byte) }, accessFlags := 1, code := some k3c3 }
/-- com/example/attenuation/attenuation/core/Outcome -/
def k3 : Class := { plain "com/example/attenuation/attenuation/core/Outcome" (some 2) with
  accessFlags := 49
  interfaces := #[]
  cf := some (fileOf pool3 18 #[.nestMembers #[26]] #[{ accessFlags := 1, nameIndex := 5, descriptorIndex := 32, attributes := #[] }, { accessFlags := 9, nameIndex := 60, descriptorIndex := 61, attributes := #[] }, { accessFlags := 1, nameIndex := 8, descriptorIndex := 236, attributes := #[] }, { accessFlags := 1, nameIndex := 16, descriptorIndex := 237, attributes := #[] }] 49 2 #[] #[{ accessFlags := 18, nameIndex := 8, descriptorIndex := 21, attributes := #[] }, { accessFlags := 18, nameIndex := 16, descriptorIndex := 24, attributes := #[] }, { accessFlags := 26, nameIndex := 211, descriptorIndex := 212, attributes := #[] }, { accessFlags := 26, nameIndex := 214, descriptorIndex := 212, attributes := #[] }, { accessFlags := 26, nameIndex := 215, descriptorIndex := 212, attributes := #[] }, { accessFlags := 26, nameIndex := 218, descriptorIndex := 212, attributes := #[] }, { accessFlags := 26, nameIndex := 149, descriptorIndex := 150, attributes := #[] }])
  fields := #[{ name := "status", type := (.object "com/example/attenuation/attenuation/core/Outcome$Status"), accessFlags := 18, slot := 0, constantValue := 0 }, { name := "body", type := (.array .byte), accessFlags := 18, slot := 1, constantValue := 0 }, { name := "LACKING", type := (.object "java/lang/String"), accessFlags := 26, slot := 0, constantValue := 0 }, { name := "APP_SEPARATOR", type := (.object "java/lang/String"), accessFlags := 26, slot := 1, constantValue := 0 }, { name := "REDUCED_BY", type := (.object "java/lang/String"), accessFlags := 26, slot := 2, constantValue := 0 }, { name := "OWN_BEHALF", type := (.object "java/lang/String"), accessFlags := 26, slot := 3, constantValue := 0 }, { name := "WHY_LACKING", type := (.object "java/util/regex/Pattern"), accessFlags := 26, slot := 4, constantValue := 0 }]
  methods := #[k3m0, k3m1, k3m2, k3m3]
  instanceTypes := #[(.object "com/example/attenuation/attenuation/core/Outcome$Status"), (.array .byte)]
  staticTypes := #[(.object "java/lang/String"), (.object "java/lang/String"), (.object "java/lang/String"), (.object "java/lang/String"), (.object "java/util/regex/Pattern")]
  resolved := Array.replicate 282 none
  statics := none }

def pool4 : Array CpInfo := pool [(1, .class_ 2), (0, u "java/lang/constant/Constable"), (0, .class_ 4), (0, u "java/lang/Object")] 6

/-- java/lang/constant/Constable -/
def k4 : Class := { plain "java/lang/constant/Constable" (some 0) with
  accessFlags := 1537
  interfaces := #[]
  cf := some (fileOf pool4 1 #[] #[] 1537 3 #[] #[])
  fields := #[]
  methods := #[]
  instanceTypes := #[]
  staticTypes := #[]
  resolved := Array.replicate 11 none
  statics := none }

def pool5 : Array CpInfo := pool [(1, .class_ 2), (0, u "java/lang/Comparable"), (0, .class_ 4), (0, u "java/lang/Object")] 7

/-- java/lang/Comparable -/
def k5 : Class := { plain "java/lang/Comparable" (some 0) with
  accessFlags := 1537
  interfaces := #[]
  cf := some (fileOf pool5 1 #[] #[] 1537 3 #[] #[])
  fields := #[]
  methods := #[]
  instanceTypes := #[]
  staticTypes := #[]
  resolved := Array.replicate 12 none
  statics := none }

def pool6 : Array CpInfo := pool [(1, .class_ 2), (0, u "java/io/Serializable"), (0, .class_ 4), (0, u "java/lang/Object")] 2

/-- java/io/Serializable -/
def k6 : Class := { plain "java/io/Serializable" (some 0) with
  accessFlags := 1537
  interfaces := #[]
  cf := some (fileOf pool6 1 #[] #[] 1537 3 #[] #[])
  fields := #[]
  methods := #[]
  instanceTypes := #[]
  staticTypes := #[]
  resolved := Array.replicate 7 none
  statics := none }

def pool7 : Array CpInfo := pool [(2, .class_ 4), (1, u "java/lang/Enum"), (0, u "name"), (0, u "Ljava/lang/String;"), (2, u "ordinal"), (0, u "I"), (1, .class_ 14), (1, u "java/lang/Object"), (4, u "hash"), (86, .class_ 108), (1, u "java/lang/Enum$EnumDesc"), (2, .class_ 112), (0, u "java/lang/constant/Constable"), (0, .class_ 114), (0, u "java/lang/Comparable"), (0, .class_ 116), (0, u "java/io/Serializable")] 87

/-- java/lang/Enum -/
def k7 : Class := { plain "java/lang/Enum" (some 0) with
  accessFlags := 1057
  interfaces := #[4, 5, 6]
  cf := some (fileOf pool7 2 #[.nestMembers #[106]] #[] 1057 12 #[111, 113, 115] #[{ accessFlags := 18, nameIndex := 5, descriptorIndex := 6, attributes := #[] }, { accessFlags := 18, nameIndex := 9, descriptorIndex := 10, attributes := #[] }, { accessFlags := 2, nameIndex := 19, descriptorIndex := 10, attributes := #[] }])
  fields := #[{ name := "name", type := (.object "java/lang/String"), accessFlags := 18, slot := 0, constantValue := 0 }, { name := "ordinal", type := .int, accessFlags := 18, slot := 1, constantValue := 0 }, { name := "hash", type := .int, accessFlags := 2, slot := 2, constantValue := 0 }]
  methods := #[]
  instanceTypes := #[(.object "java/lang/String"), .int, .int]
  staticTypes := #[]
  resolved := Array.replicate 204 none
  statics := none }

def pool8 : Array CpInfo := pool [(1, .class_ 2), (0, u "com/example/attenuation/attenuation/core/Outcome$Status"), (2, u "DONE"), (0, u "Lcom/example/attenuation/attenuation/core/Outcome$Status;"), (2, u "DENIED"), (2, u "UNAVAILABLE"), (2, u "FAILED"), (2, u "UNREACHABLE"), (2, u "$VALUES"), (0, u "[Lcom/example/attenuation/attenuation/core/Outcome$Status;"), (6, .class_ 31), (1, u "java/lang/Enum"), (28, .class_ 61), (0, u "com/example/attenuation/attenuation/core/Outcome")] 2

/-- com/example/attenuation/attenuation/core/Outcome$Status -/
def k8 : Class := { plain "com/example/attenuation/attenuation/core/Outcome$Status" (some 7) with
  accessFlags := 16433
  interfaces := #[]
  cf := some (fileOf pool8 1 #[.nestHost 60] #[] 16433 29 #[] #[{ accessFlags := 16409, nameIndex := 5, descriptorIndex := 6, attributes := #[] }, { accessFlags := 16409, nameIndex := 9, descriptorIndex := 6, attributes := #[] }, { accessFlags := 16409, nameIndex := 12, descriptorIndex := 6, attributes := #[] }, { accessFlags := 16409, nameIndex := 15, descriptorIndex := 6, attributes := #[] }, { accessFlags := 16409, nameIndex := 18, descriptorIndex := 6, attributes := #[] }, { accessFlags := 4122, nameIndex := 21, descriptorIndex := 22, attributes := #[] }])
  fields := #[{ name := "DONE", type := (.object "com/example/attenuation/attenuation/core/Outcome$Status"), accessFlags := 16409, slot := 0, constantValue := 0 }, { name := "DENIED", type := (.object "com/example/attenuation/attenuation/core/Outcome$Status"), accessFlags := 16409, slot := 1, constantValue := 0 }, { name := "UNAVAILABLE", type := (.object "com/example/attenuation/attenuation/core/Outcome$Status"), accessFlags := 16409, slot := 2, constantValue := 0 }, { name := "FAILED", type := (.object "com/example/attenuation/attenuation/core/Outcome$Status"), accessFlags := 16409, slot := 3, constantValue := 0 }, { name := "UNREACHABLE", type := (.object "com/example/attenuation/attenuation/core/Outcome$Status"), accessFlags := 16409, slot := 4, constantValue := 0 }, { name := "$VALUES", type := (.array (.object "com/example/attenuation/attenuation/core/Outcome$Status")), accessFlags := 4122, slot := 5, constantValue := 0 }]
  methods := #[]
  instanceTypes := #[(.object "java/lang/String"), .int, .int]
  staticTypes := #[(.object "com/example/attenuation/attenuation/core/Outcome$Status"), (.object "com/example/attenuation/attenuation/core/Outcome$Status"), (.object "com/example/attenuation/attenuation/core/Outcome$Status"), (.object "com/example/attenuation/attenuation/core/Outcome$Status"), (.object "com/example/attenuation/attenuation/core/Outcome$Status"), (.array (.object "com/example/attenuation/attenuation/core/Outcome$Status"))]
  resolved := Array.replicate 64 none
  statics := some 0 }

def pool9 : Array CpInfo := pool [(2, .class_ 4), (1, u "java/lang/CharSequence"), (42, .class_ 48), (0, u "java/lang/CharSequence$1CodePointIterator"), (10, .class_ 60), (0, u "java/lang/CharSequence$1CharIterator"), (5, .class_ 67), (0, u "java/lang/Object")] 63

/-- java/lang/CharSequence -/
def k9 : Class := { plain "java/lang/CharSequence" (some 0) with
  accessFlags := 1537
  interfaces := #[]
  cf := some (fileOf pool9 2 #[.nestMembers #[47, 59]] #[] 1537 66 #[] #[])
  fields := #[]
  methods := #[]
  instanceTypes := #[]
  staticTypes := #[]
  resolved := Array.replicate 131 none
  statics := none }

def pool10 : Array CpInfo := pool [(1, .class_ 2), (0, u "java/lang/constant/ConstantDesc"), (0, .class_ 4), (0, u "java/lang/Object")] 32

/-- java/lang/constant/ConstantDesc -/
def k10 : Class := { plain "java/lang/constant/ConstantDesc" (some 0) with
  accessFlags := 1537
  interfaces := #[]
  cf := some (fileOf pool10 1 #[] #[] 1537 3 #[] #[])
  fields := #[]
  methods := #[]
  instanceTypes := #[]
  staticTypes := #[]
  resolved := Array.replicate 37 none
  statics := none }

def pool11 : Array CpInfo := pool [(2, .class_ 4), (1, u "java/lang/Object"), (0, u "<init>"), (0, u "()V"), (3, .class_ 12), (1, u "java/lang/String"), (0, u "value"), (0, u "[B"), (2, u "coder"), (0, u "B"), (2, u "hash"), (0, u "I"), (2, u "hashIsZero"), (0, u "Z"), (13, u "COMPACT_STRINGS"), (534, .class_ 576), (0, u "java/lang/CharSequence"), (22, u "CASE_INSENSITIVE_ORDER"), (0, u "Ljava/util/Comparator;"), (500, u "serialPersistentFields"), (0, u "[Ljava/io/ObjectStreamField;"), (0, .class_ 1104), (0, u "java/lang/String$CaseInsensitiveComparator"), (1, .class_ 1107), (0, u "java/io/Serializable"), (0, .class_ 1109), (0, u "java/lang/Comparable"), (0, .class_ 1111), (0, u "java/lang/constant/Constable"), (0, .class_ 1113), (0, u "java/lang/constant/ConstantDesc"), (2, u "serialVersionUID"), (0, u "J"), (3, u "REPL"), (0, u "C"), (2, u "LATIN1"), (1, u "UTF16")] 323

def k11m0 : Method := { name := "<init>", desc := "()V", sig := { parameters := [], returnType := none }, accessFlags := 1, code := none }
/-- java/lang/String -/
def k11 : Class := { plain "java/lang/String" (some 0) with
  accessFlags := 49
  interfaces := #[6, 5, 9, 4, 10]
  cf := some (fileOf pool11 10 #[.nestMembers #[1103]] #[{ accessFlags := 1, nameIndex := 5, descriptorIndex := 6, attributes := #[] }] 49 2 #[1106, 1108, 575, 1110, 1112] #[{ accessFlags := 18, nameIndex := 13, descriptorIndex := 14, attributes := #[] }, { accessFlags := 18, nameIndex := 17, descriptorIndex := 18, attributes := #[] }, { accessFlags := 2, nameIndex := 21, descriptorIndex := 22, attributes := #[] }, { accessFlags := 2, nameIndex := 25, descriptorIndex := 26, attributes := #[] }, { accessFlags := 26, nameIndex := 1116, descriptorIndex := 1117, attributes := #[] }, { accessFlags := 24, nameIndex := 40, descriptorIndex := 26, attributes := #[] }, { accessFlags := 26, nameIndex := 1101, descriptorIndex := 1102, attributes := #[] }, { accessFlags := 26, nameIndex := 1121, descriptorIndex := 1122, attributes := #[] }, { accessFlags := 25, nameIndex := 599, descriptorIndex := 600, attributes := #[] }, { accessFlags := 24, nameIndex := 1125, descriptorIndex := 18, attributes := #[] }, { accessFlags := 24, nameIndex := 1127, descriptorIndex := 18, attributes := #[] }])
  fields := #[{ name := "value", type := (.array .byte), accessFlags := 18, slot := 0, constantValue := 0 }, { name := "coder", type := .byte, accessFlags := 18, slot := 1, constantValue := 0 }, { name := "hash", type := .int, accessFlags := 2, slot := 2, constantValue := 0 }, { name := "hashIsZero", type := .boolean, accessFlags := 2, slot := 3, constantValue := 0 }, { name := "serialVersionUID", type := .long, accessFlags := 26, slot := 0, constantValue := 0 }, { name := "COMPACT_STRINGS", type := .boolean, accessFlags := 24, slot := 1, constantValue := 0 }, { name := "serialPersistentFields", type := (.array (.object "java/io/ObjectStreamField")), accessFlags := 26, slot := 2, constantValue := 0 }, { name := "REPL", type := .char, accessFlags := 26, slot := 3, constantValue := 0 }, { name := "CASE_INSENSITIVE_ORDER", type := (.object "java/util/Comparator"), accessFlags := 25, slot := 4, constantValue := 0 }, { name := "LATIN1", type := .byte, accessFlags := 24, slot := 5, constantValue := 0 }, { name := "UTF16", type := .byte, accessFlags := 24, slot := 6, constantValue := 0 }]
  methods := #[k11m0]
  instanceTypes := #[(.array .byte), .byte, .int, .boolean]
  staticTypes := #[.long, .boolean, (.array (.object "java/io/ObjectStreamField")), .char, (.object "java/util/Comparator"), .byte, .byte]
  resolved := Array.replicate 1451 none
  statics := none }

def pool12 : Array CpInfo := pool [(2, .class_ 4), (1, u "java/lang/Object"), (0, u "<init>"), (0, u "()V"), (35, .class_ 44), (1, u "java/util/Objects"), (0, u "requireNonNull"), (48, u "(Ljava/lang/Object;Ljava/lang/String;)Ljava/lang/Object;")] 89

def k12m0 : Method := { name := "<init>", desc := "()V", sig := { parameters := [], returnType := none }, accessFlags := 2, code := none }
def k12c1 : Code := { maxStack := 3, maxLocals := 2, code := jdk_31_method_11_code, exceptionTable := #[], attributes := #[] }
def k12m1 : Method := { name := "requireNonNull", desc := "(Ljava/lang/Object;Ljava/lang/String;)Ljava/lang/Object;", sig := { parameters := [(.object "java/lang/Object"), (.object "java/lang/String")], returnType := some (.object "java/lang/Object") }, accessFlags := 9, code := some k12c1 }
/-- java/util/Objects -/
def k12 : Class := { plain "java/util/Objects" (some 0) with
  accessFlags := 49
  interfaces := #[]
  cf := some (fileOf pool12 42 #[] #[{ accessFlags := 2, nameIndex := 5, descriptorIndex := 6, attributes := #[] }, { accessFlags := 9, nameIndex := 45, descriptorIndex := 94, attributes := #[] }] 49 2 #[] #[])
  fields := #[]
  methods := #[k12m0, k12m1]
  instanceTypes := #[]
  staticTypes := #[]
  resolved := Array.replicate 184 none
  statics := none }

def pool13 : Array CpInfo := pool [(1, u "java/lang/Cloneable"), (0, .class_ 1), (0, u "java/lang/Object"), (0, .class_ 3)] 3

/-- java/lang/Cloneable -/
def k13 : Class := { plain "java/lang/Cloneable" (some 0) with
  accessFlags := 1537
  interfaces := #[]
  cf := some (fileOf pool13 2 #[] #[] 1537 4 #[] #[])
  fields := #[]
  methods := #[]
  instanceTypes := #[]
  staticTypes := #[]
  resolved := Array.replicate 8 none
  statics := none }

/-- the primitive byte -/
def k14 : Class := { plain "byte" none with kind := .primitive 'B', accessFlags := 0x411 }
/-- [B -/
def k15 : Class := { plain "[B" (some 0) with kind := .array 14 .byte, interfaces := #[13, 6], accessFlags := 1041 }

/-- the primitive int -/
def k16 : Class := { plain "int" none with kind := .primitive 'I', accessFlags := 0x411 }
/-- [I -/
def k17 : Class := { plain "[I" (some 0) with kind := .array 16 .int, interfaces := #[13, 6], accessFlags := 1041 }

def heap : Heap := #[{ cls := 8, slots := #[.null, .null, .null, .ref 1, .null, .null], vm := .statics 8 },
  { cls := 8, slots := #[.null, .int 0, .int 0], vm := .none }]
def classes : Array Class := #[k0, k1, k2, k3, k4, k5, k6, k7, k8, k9, k10, k11, k12, k13, k14, k15, k16, k17]
def interned : List (Array UInt16 × Addr) := []
def slotsUsed : Nat := 9
def theMethod : MethodId := ⟨1, 1⟩
def args0 : Array Value := #[.int 2, .int 65, .int 66]
def aboutOver (below : List Frame) : State where
  vm := { classes := classes, interned := interned.toArray }
  heap := heap
  slotsUsed := slotsUsed
  threads := #[{ frames := .invoking theMethod args0 :: below }]
def below0 : List Frame := [.native { method := ⟨0, 0⟩, args := #[] }]
def about1 : State := aboutOver below0
def p0 : Program := .bare "" "" ""
def e0 : Env := launch0.env 0 0 0
theorem w_frames : about1.frames = Frame.invoking theMethod args0 :: below0 := rfl
set_option maxRecDepth 65536 in
theorem w_args : argsFit about1.vm theMethod args0 = true := by decide +kernel
set_option maxRecDepth 65536 in
theorem w_heap : heapFits about1 = true := by decide +kernel
set_option maxRecDepth 65536 in
theorem w_runnable : about1.curStatus? = some .runnable := by decide +kernel
set_option maxRecDepth 65536 in
theorem w_alone : about1.alone = true := by decide +kernel
set_option maxRecDepth 65536 in
theorem w_named : about1.methodNamed? x = some theMethod := by decide +kernel
set_option maxRecDepth 65536 in
theorem w_hears : about1.hears theMethod below0 = true := by decide +kernel
set_option maxRecDepth 65536 in
theorem w_ripe : about1.ripe theMethod args0 below0 = true := by decide +kernel
theorem w_running : about1.status = .running := rfl
set_option maxRecDepth 65536 in
theorem w_room : about1.hasRoom e0.platform room_1 = true :=
  launch0.hasRoom_least _ room_1 (by decide +kernel) (by decide +kernel) (by decide +kernel) (by decide +kernel) (by decide +kernel) (by decide +kernel)
theorem allAtoms_all (ts : List Jvm.Cond) (a : Array Jvm.Value) (st : Jvm.State) : (allAtoms ts).before a st = ts.all (fun c => c.before a st) := by
  induction ts with
  | nil => rfl
  | cons c t ih =>
    show (Jvm.Cond.and c (allAtoms t)).before a st = _
    rw [Jvm.Cond.before_and, ih, List.all_cons]
def words1 : List Jvm.Cond := Jvm.Cond.code x code maxLocals ret :: tables_1
/-- a 'code' word, met by the world's own term for the bytes: nothing is compared byte by byte -/
theorem code_word {y : MethodName} {bytes : ByteArray} {mx : Nat} {rt : Option FieldType} {a : Array Value} {s : State} {m : MethodId} {meth : Method} {c : Code} (h1 : s.methodNamed? y = some m) (h2 : s.vm.method? m = some meth) (h3 : meth.code = some c) (h4 : c.code = bytes)
    (h5 : (c.maxLocals == mx && c.exceptionTable.isEmpty && decide (c.maxStack ≤ mostOperands) && decide (meth.sig.returnType = rt) && !meth.locks && decide (parseMethodDescriptor y.desc = some meth.sig)) = true) : (Jvm.Cond.code y bytes mx rt).before a s = true := by
  simp only [Bool.and_eq_true, beq_iff_eq, Bool.not_eq_true', decide_eq_true_eq] at h5
  obtain ⟨⟨⟨⟨⟨g1, g2⟩, g3⟩, g4⟩, g5⟩, g6⟩ := h5
  simp [Cond.before, Cond.holds, Cond.value, h1, h2, h3, h4, g1, g2, g3, g4, g5, g6]
def isCode : Jvm.Cond → Bool
  | .code _ _ _ _ => true
  | _ => false
theorem all_split {L : List Jvm.Cond} {P : Jvm.Cond → Bool} (h1 : L.all (fun c => isCode c || P c) = true) (h2 : ∀ c ∈ L.filter isCode, P c = true) : L.all P = true := by
  refine List.all_eq_true.mpr fun c hc => ?_
  have h := List.all_eq_true.mp h1 c hc
  rcases Bool.eq_false_or_eq_true (isCode c) with hi | hi
  · exact h2 c (List.mem_filter.mpr ⟨hc, hi⟩)
  · simpa [hi] using h
set_option maxRecDepth 65536 in
theorem w_c0 : (Jvm.Cond.code x code maxLocals ret).before args0 about1 = true := code_word (m := ⟨1, 1⟩) (meth := k1m1) (c := k1c1) (by decide +kernel) rfl rfl rfl (by decide +kernel)
set_option maxRecDepth 65536 in
theorem w_c1 : (Jvm.Cond.code ({ cls := "com/example/attenuation/attenuation/core/Outcome", name := "failed", desc := "([B)Lcom/example/attenuation/attenuation/core/Outcome;" } : Jvm.MethodName) prog_16_method_5_code (1 : Nat) (Option.some (Jvm.ClassFile.FieldType.object "com/example/attenuation/attenuation/core/Outcome"))).before args0 about1 = true := code_word (m := ⟨3, 1⟩) (meth := k3m1) (c := k3c1) (by decide +kernel) rfl rfl rfl (by decide +kernel)
set_option maxRecDepth 65536 in
theorem w_c2 : (Jvm.Cond.code ({ cls := "com/example/attenuation/attenuation/core/Outcome", name := "<init>", desc := "(Lcom/example/attenuation/attenuation/core/Outcome$Status;[B)V" } : Jvm.MethodName) prog_16_method_1_code (3 : Nat) (Option.none : Option Jvm.ClassFile.FieldType)).before args0 about1 = true := code_word (m := ⟨3, 0⟩) (meth := k3m0) (c := k3c0) (by decide +kernel) rfl rfl rfl (by decide +kernel)
set_option maxRecDepth 65536 in
theorem w_c3 : (Jvm.Cond.code ({ cls := "java/lang/Record", name := "<init>", desc := "()V" } : Jvm.MethodName) jdk_30_method_1_code (1 : Nat) (Option.none : Option Jvm.ClassFile.FieldType)).before args0 about1 = true := code_word (m := ⟨2, 0⟩) (meth := k2m0) (c := k2c0) (by decide +kernel) rfl rfl rfl (by decide +kernel)
set_option maxRecDepth 65536 in
theorem w_c4 : (Jvm.Cond.code ({ cls := "java/lang/Object", name := "<init>", desc := "()V" } : Jvm.MethodName) object_method_1_code (1 : Nat) (Option.none : Option Jvm.ClassFile.FieldType)).before args0 about1 = true := code_word (m := ⟨0, 0⟩) (meth := k0m0) (c := k0c0) (by decide +kernel) rfl rfl rfl (by decide +kernel)
set_option maxRecDepth 65536 in
theorem w_c5 : (Jvm.Cond.code ({ cls := "java/util/Objects", name := "requireNonNull", desc := "(Ljava/lang/Object;Ljava/lang/String;)Ljava/lang/Object;" } : Jvm.MethodName) jdk_31_method_11_code (2 : Nat) (Option.some (Jvm.ClassFile.FieldType.object "java/lang/Object"))).before args0 about1 = true := code_word (m := ⟨12, 1⟩) (meth := k12m1) (c := k12c1) (by decide +kernel) rfl rfl rfl (by decide +kernel)
set_option maxRecDepth 65536 in
theorem w_c6 : (Jvm.Cond.code ({ cls := "com/example/attenuation/attenuation/core/Outcome", name := "status", desc := "()Lcom/example/attenuation/attenuation/core/Outcome$Status;" } : Jvm.MethodName) prog_16_method_15_code (1 : Nat) (Option.some (Jvm.ClassFile.FieldType.object "com/example/attenuation/attenuation/core/Outcome$Status"))).before args0 about1 = true := code_word (m := ⟨3, 2⟩) (meth := k3m2) (c := k3c2) (by decide +kernel) rfl rfl rfl (by decide +kernel)
set_option maxRecDepth 65536 in
theorem w_c7 : (Jvm.Cond.code ({ cls := "com/example/attenuation/attenuation/core/Outcome", name := "body", desc := "()[B" } : Jvm.MethodName) prog_16_method_16_code (1 : Nat) (Option.some (Jvm.ClassFile.FieldType.array Jvm.ClassFile.FieldType.byte))).before args0 about1 = true := code_word (m := ⟨3, 3⟩) (meth := k3m3) (c := k3c3) (by decide +kernel) rfl rfl rfl (by decide +kernel)
def codes1 : List Jvm.Cond := [Jvm.Cond.code x code maxLocals ret, Jvm.Cond.code ({ cls := "com/example/attenuation/attenuation/core/Outcome", name := "failed", desc := "([B)Lcom/example/attenuation/attenuation/core/Outcome;" } : Jvm.MethodName) prog_16_method_5_code (1 : Nat) (Option.some (Jvm.ClassFile.FieldType.object "com/example/attenuation/attenuation/core/Outcome")), Jvm.Cond.code ({ cls := "com/example/attenuation/attenuation/core/Outcome", name := "<init>", desc := "(Lcom/example/attenuation/attenuation/core/Outcome$Status;[B)V" } : Jvm.MethodName) prog_16_method_1_code (3 : Nat) (Option.none : Option Jvm.ClassFile.FieldType), Jvm.Cond.code ({ cls := "java/lang/Record", name := "<init>", desc := "()V" } : Jvm.MethodName) jdk_30_method_1_code (1 : Nat) (Option.none : Option Jvm.ClassFile.FieldType), Jvm.Cond.code ({ cls := "java/lang/Object", name := "<init>", desc := "()V" } : Jvm.MethodName) object_method_1_code (1 : Nat) (Option.none : Option Jvm.ClassFile.FieldType), Jvm.Cond.code ({ cls := "java/util/Objects", name := "requireNonNull", desc := "(Ljava/lang/Object;Ljava/lang/String;)Ljava/lang/Object;" } : Jvm.MethodName) jdk_31_method_11_code (2 : Nat) (Option.some (Jvm.ClassFile.FieldType.object "java/lang/Object")), Jvm.Cond.code ({ cls := "com/example/attenuation/attenuation/core/Outcome", name := "status", desc := "()Lcom/example/attenuation/attenuation/core/Outcome$Status;" } : Jvm.MethodName) prog_16_method_15_code (1 : Nat) (Option.some (Jvm.ClassFile.FieldType.object "com/example/attenuation/attenuation/core/Outcome$Status")), Jvm.Cond.code ({ cls := "com/example/attenuation/attenuation/core/Outcome", name := "body", desc := "()[B" } : Jvm.MethodName) prog_16_method_16_code (1 : Nat) (Option.some (Jvm.ClassFile.FieldType.array Jvm.ClassFile.FieldType.byte))]
set_option maxRecDepth 65536 in
theorem codes_eq : words1.filter isCode = codes1 := rfl
theorem w_codes : ∀ c ∈ words1.filter isCode, c.before args0 about1 = true := by
  rw [codes_eq]
  intro c hc
  simp only [codes1, List.mem_cons, List.not_mem_nil, or_false] at hc
  rcases hc with rfl | rfl | rfl | rfl | rfl | rfl | rfl | rfl
  · exact w_c0
  · exact w_c1
  · exact w_c2
  · exact w_c3
  · exact w_c4
  · exact w_c5
  · exact w_c6
  · exact w_c7
set_option maxRecDepth 65536 in
theorem w_t1 : (words1.take 24).all (fun c => isCode c || c.before args0 about1) = true := by decide +kernel
set_option maxRecDepth 65536 in
theorem w_t2 : ((words1.drop 24).take 24).all (fun c => isCode c || c.before args0 about1) = true := by decide +kernel
set_option maxRecDepth 65536 in
theorem w_t3 : ((words1.drop 24).drop 24).all (fun c => isCode c || c.before args0 about1) = true := by decide +kernel
theorem w_tables : (allAtoms (Jvm.Cond.code x code maxLocals ret :: tables_1)).before args0 about1 = true := by
  rw [allAtoms_all]
  show words1.all (fun c => c.before args0 about1) = true
  refine all_split ?_ w_codes
  rw [← List.take_append_drop 24 words1, List.all_append, w_t1, ← List.take_append_drop 24 (words1.drop 24), List.all_append, w_t2, w_t3]
  rfl
set_option maxRecDepth 65536 in
theorem w_case : (Jvm.Cond.and given_1 narrow_1).before args0 about1 = true := by decide +kernel
theorem w_applies : (headSpec (Jvm.Cond.code x code maxLocals ret :: tables_1) room_1).applies x e0.platform about1 = true :=
  (Spec.applies_iff w_frames).mpr ⟨w_running, w_runnable, w_alone, w_named, w_hears, w_ripe, w_room, w_tables⟩
theorem atStart : AtStart classFile x code maxLocals ret World_1 tables_1 room_1 Calls_1 rest_1 Pre_1 launch0 p0 e0 about1 theMethod args0 below0 :=
  ⟨lists_1, trivial, launch0.admits_env _ _ _, launch0.least_env, fairChoices_fair.cas, fairChoices_fair.clock, w_frames, w_args, w_heap, w_applies, trivial, trivial, w_case⟩
end start1
theorem witness_1 : WitnessClaimed_1 := ⟨start1.p0, start1.e0, start1.about1, start1.theMethod, start1.args0, start1.below0, start1.atStart⟩
end Jvm.Pilot.@@N@@
