import JvmDerived
import JvmDerived.Pilot.@@N@@Statement
import JvmDerived.Pilot.@@N@@Code
set_option linter.unusedVariables false
set_option linter.unusedSimpArgs false
namespace Jvm.Pilot.@@N@@
open Jvm Jvm.ClassFile Sem Op Lib Jvm.Free Jvm.Stand Jvm.LawKit Jvm.RoadKit Bundle Jvm.Pilot.@@N@@.Jvm.D
abbrev own_At (p : Program) (e : Env) (below : List Frame) (m : MethodId) (T : State) (pc : Nat) (ls : Array Slot) (st : List Value) (t : State) : Prop := Steps p.tables e below (T.setTop (mkF m pc ls st)) t
abbrev own_En (p : Program) (e : Env) (below : List Frame) (m : MethodId) (T : State) (a : Array Value) (n : Nat) (t : State) : Prop := Steps p.tables e below (T.setTop (entryFrame m a n)) t
theorem own_w {a0 : Array Value} {Z : State} (hw : ∀ d ∈ tables_1, d.before a0 Z = true) (i : Nat) {d : Jvm.Cond} (h : tables_1[i]? = some d) : d.before a0 Z = true := hw d (List.mem_of_getElem? h)
theorem own_eqI {t : Term} {k : Int32} {args : Array Value} {s : State} (h : (Jvm.Cond.eq t (.int k)).value args s none s [] = some true) : t.eval args s none [] s = some (.int k) := by
  have e : (Term.int k).eval args s none [] s = some (.int k) := rfl
  simp only [Cond.value, e] at h
  cases ht : t.eval args s none [] s with
  | none => simp [ht] at h
  | some x => cases x <;> simp [ht] at h ⊢; exact h
theorem own_neI {t : Term} {k z : Int32} {args : Array Value} {s : State} (e : t.eval args s none [] s = some (.int z)) (h : (Jvm.Cond.not (Jvm.Cond.eq t (.int k))).value args s none s [] = some true) : ¬ (z = k) := by
  have q := not_v h
  have e2 : (Term.int k).eval args s none [] s = some (.int k) := rfl
  simp only [Cond.value, e, e2, Bool.not_true, Option.some.injEq, decide_eq_false_iff_not] at q
  exact q
theorem own_neR {t u : Term} {a b : Addr} {args : Array Value} {s : State} (ea : t.eval args s none [] s = some (.ref a)) (eb : u.eval args s none [] s = some (.ref b)) (h : (Jvm.Cond.not (Jvm.Cond.eq t u)).value args s none s [] = some true) : ¬ (a = b) := by
  have q := not_v h
  rw [eq_R ea eb rfl rfl] at q
  intro e
  rw [e] at q
  simp at q
theorem own_eqJ {t : Term} {k : Int64} {args : Array Value} {s : State} (h : (Jvm.Cond.eq t (.long k)).value args s none s [] = some true) : t.eval args s none [] s = some (.long k) := by
  have e : (Term.long k).eval args s none [] s = some (.long k) := rfl
  simp only [Cond.value, e] at h
  cases ht : t.eval args s none [] s with
  | none => simp [ht] at h
  | some x => cases x <;> simp [ht] at h ⊢; exact h
theorem own_len {t : Term} {n : Int32} {a : Addr} {cl : Cell} {ty : FieldType} {args : Array Value} {s : State} (ev : t.eval args s none [] s = some (.ref a)) (A : Arr s s.heap a cl ty) (h : (Jvm.Cond.eq (.length t) (.int n)).value args s none s [] = some true) : cl.slots.size < 2 ^ 31 ∧ cl.slots.size.toInt32 = n := by
  have q := own_eqI h
  have hA := A.fin (Vm.Alike.refl _)
  simp only [Term.eval, ev, hA, Option.bind_eq_bind, Option.bind_some] at q
  split at q
  · rename_i hl
    exact ⟨hl, Value.int.inj (Option.some.inj q)⟩
  · cases q
theorem own_elem {t u : Term} {j : Int32} {a : Addr} {v : Value} {cl : Cell} {ty : FieldType} {args : Array Value} {s : State} (ev : t.eval args s none [] s = some (.ref a)) (A : Arr s s.heap a cl ty) (h : (Term.elem t (.int j)).eval args s none [] s = some v) (i : Nat) (hi : j.toNatClampNeg = i) : cl.slots[i]? = some v := by
  have q := (elem_in h ev (rfl : (Term.int j).eval args s none [] s = some (.int j)) A.1).2
  rw [hi] at q; exact q
/-- an array as it stood at the start, that may be cloned -/
def own_Cln (Z : State) (h : Heap) (a : Addr) (ty : FieldType) (n : Int32) (vs : List Value) (d : Value) : Prop := ∃ c : Cell, Arr Z h a c ty ∧ FitC Z c ∧ c.slots.size = n.toNatClampNeg ∧ ¬ n < 0 ∧ Has c vs d ∧ ∀ i, i < c.slots.size → fits ty (vs.getD i d) = true
theorem own_Cln.ext {Z : State} {h h' : Heap} {a : Addr} {ty : FieldType} {n : Int32} {vs : List Value} {d : Value} (F : own_Cln Z h a ty n vs d) (E : Ext h h') : own_Cln Z h' a ty n vs d := by
  obtain ⟨c, A, r⟩ := F; exact ⟨c, A.ext E, r⟩
theorem own_Cln.start {Z : State} {a : Addr} {cl : Cell} {ty : FieldType} {z : Int32} {vs : List Value} {dv : Value} (hf : Fit Z) (A : Arr Z Z.heap a cl ty) (q : cl.slots.size < 2 ^ 31 ∧ cl.slots.size.toInt32 = z) (hz : ¬ z < 0) (hl : z.toNatClampNeg = vs.length) (H : HasL cl 0 vs) : own_Cln Z Z.heap a ty z vs dv := by
  have S : cl.slots.size = z.toNatClampNeg := by rw [← q.2]; simp only [Int32.toNatClampNeg, len_toInt q.1]; rfl
  have H' : Has cl vs dv := fun j hj => by have := HasL.at (dv := dv) vs 0 H j (by rw [← hl, ← S]; exact hj); rwa [Nat.zero_add] at this
  refine ⟨cl, A, FitC.start hf A, S, hz, H', fun j hj => ?_⟩
  have e1 : (Nat.toInt32 j).toNatClampNeg = j := by simp only [Int32.toNatClampNeg, len_toInt (Nat.lt_trans hj q.1)]; rfl
  exact elem_fits (j := Nat.toInt32 j) hf A (idx_in hj q.1) (by rw [e1]; exact H' j hj)
theorem own_Cln.arv {Z : State} {h : Heap} {a : Addr} {ty : FieldType} {n : Int32} {vs : List Value} {d : Value} (F : own_Cln Z h a ty n vs d) : ∃ k, Arv Z h a k ty n vs d := by
  obtain ⟨c, A, -, r⟩ := F; exact ⟨c.cls, c, A, rfl, r⟩
theorem own_eqR {t u : Term} {b : Addr} {args : Array Value} {s : State} (h : (Jvm.Cond.eq t u).value args s none s [] = some true) (e : u.eval args s none [] s = some (.ref b)) : t.eval args s none [] s = some (.ref b) := by
  simp only [Cond.value, e] at h
  cases ht : t.eval args s none [] s with
  | none => simp [ht] at h
  | some x => cases x <;> simp [ht] at h ⊢; exact h
def EV (Z : State) (a_DONE : Addr) : Prop := Sta Z Z.heap "com/example/attenuation/attenuation/core/Outcome$Status" "DONE" "Lcom/example/attenuation/attenuation/core/Outcome$Status;" (.ref a_DONE) ∧ Exa Z Z.heap a_DONE "com/example/attenuation/attenuation/core/Outcome$Status"
theorem own_b2 (x : Int32) : x.toInt8.toInt32.toInt8.toInt32 = x.toInt8.toInt32 := by
  have a := c_i2b x
  have b := c_i2b x.toInt8.toInt32
  apply Int32.toInt_inj.mp
  omega
theorem own_narb2 (x : Int32) : nar .byte (x.toInt8.toInt32) = x.toInt8.toInt32 := own_b2 x
theorem ef_ci (m : MethodId) (x0 : Addr) (x1 : Addr) (x2 : Addr)  : entryFrame m #[(.ref x0), (.ref x1), (.ref x2)] 3 = mkF m 0 #[.val (.ref x0), .val (.ref x1), .val (.ref x2)] [] := by first | (simp [entryFrame, mkF, argsToLocals, Value.category]; done) | rfl
theorem d_prog_16_method_1_code_0 : decode prog_16_method_1_code 0 = .ok (.aload_n 0, 1) := by decide +kernel
theorem d_prog_16_method_1_code_1 : decode prog_16_method_1_code 1 = .ok (.invokespecial 1, 3) := by decide +kernel
theorem ef_f1 (m : MethodId) (x0 : Addr)  : entryFrame m #[(.ref x0)] 1 = mkF m 0 #[.val (.ref x0)] [] := by first | (simp [entryFrame, mkF, argsToLocals, Value.category]; done) | rfl
theorem d_jdk_30_method_1_code_0 : decode jdk_30_method_1_code 0 = .ok (.aload_n 0, 1) := by decide +kernel
theorem d_jdk_30_method_1_code_1 : decode jdk_30_method_1_code 1 = .ok (.invokespecial 1, 3) := by decide +kernel
theorem d_jdk_30_method_1_code_4 : decode jdk_30_method_1_code 4 = .ok (.return_, 1) := by decide +kernel
theorem pn_java_lang_Record : plainName "java/lang/Record" = true := by first | (simp [plainName, overriddenIn]; done) | decide +kernel
abbrev own_m0 : MethodName := ⟨"java/lang/Record", "<init>", "()V"⟩
def Q_f1 (Z : State) (q0 : Addr) (a_DONE : Addr) (h0 : Heap) (n0 : Nat) (v : Option Value) (h : Heap) (L : List Loc) : Prop := v = none ∧ Fr n0 L ∧ h = h0
set_option maxRecDepth 65536 in
set_option maxHeartbeats 40000000 in
theorem rm_f1 (l : Launch) (Z : State) (a0 : Array Value) (hw : ∀ d ∈ tables_1, d.before a0 Z = true) (ws : List Jvm.Cond) (q0 : Addr) (a_DONE : Addr) (h0 : Heap) (n0 : Nat) (O0 : Old Z n0 h0) (hE : EV Z a_DONE) :
    MetFree l own_m0 (head1 (Jvm.Cond.code own_m0 jdk_30_method_1_code 1 none :: ws) ({ frames := 1, cells := 0, slots := 0, locals := 12 } : Room)) (fun a U => a = #[(.ref q0)] ∧ Z.Warmed39 U.vm ∧ U.heap = h0) (fun _ _ _ _ _ => True) (fun _ U o U' => ∃ v L, o = .returned v ∧ Q_f1 Z q0 a_DONE h0 n0 v U'.heap L ∧ FrameEnd U o U' L ({ frames := 1, cells := 0, slots := 0, locals := 12 } : Room).cells ({ frames := 1, cells := 0, slots := 0, locals := 12 } : Room).slots) := by
  refine MetFree.of_bodySF (plainFor_of_name pn_java_lang_Record) hisR ?_
  intro p e s m args below meth c s₁ Bd hml0 hP hK
  obtain ⟨rfl, hZ, hh⟩ := hP
  have hx := Bd.exec
  have hby := Bd.bytes
  have hml : c.maxLocals = 1 := hml0
  have hown : s.vm.findClass "java/lang/Record" = some m.cls := findClass_of_methodNamed Bd.named
  have hnm := (name_of_methodNamed Bd.named Bd.method).1
  have X0 : Stand p l e ({ frames := 1, cells := 0, slots := 0, locals := 12 } : Room) s m #[(.ref q0)] below meth c s₁ [] 0 0 := Stand.of_body Bd
  have e0 : s₁.heap = h0 := by rw [← hh, Bd.state]; rfl
  have N0 := Fr.nil n0
  refine Classical.byContradiction fun hNG => ?_
  have K0 := Keep.refl h0 []
  have k0 : ∀ t, own_At p e below m s₁ 0 #[.val (.ref q0)] [] t → own_En p e below m s₁ #[(.ref q0)] 1 t := fun t k => castTop (ef_f1 m q0 ) k
  obtain ⟨S_DONE, E_DONE⟩ := (id hE : EV Z a_DONE)
  obtain ⟨T1, X1, e1, st1⟩ := initO X0 hx hZ hown (own_w hw 18 rfl) (own_w hw 19 rfl) (own_w hw 20 rfl) e0 (g := (mkF m 1 #[.val (.ref q0)] [(.ref q0)])) rfl (by rw [hml]; rfl) rfl (hb hby d_jdk_30_method_1_code_1) (by decide) (W := 0) (by show 2 * 0 + _ ≤ _; exact Nat.le_of_eq rfl) (by decide)
  have k2 : ∀ t, own_At p e below m T1 4 #[.val (.ref q0)] [] t → own_En p e below m s₁ #[(.ref q0)] 1 t := by
    intro t k
    refine k0 t ?_
    refine XS.aloadN X0.here hx rfl (hb hby d_jdk_30_method_1_code_0) rfl rfl ?_
    show own_At p e below m s₁ 1 #[.val (.ref q0)] [(.ref q0)] t
    refine st1 _ ?_
    show own_At p e below m T1 4 #[.val (.ref q0)] [] t
    exact k
  obtain ⟨fs, hr, hrun, hended, hW, hsame⟩ := X1.leave (v := none) (fun _ => rfl)
  refine hNG ⟨_, _, k2 _ ?_, hrun, hended, _, _, rfl, ?_, ⟨_, rfl⟩, hW, hsame.mono (by decide) (by decide)⟩
  · exact X1.returnOut hx Bd.returns (hb hby d_jdk_30_method_1_code_4) hr
  · show Q_f1 Z q0 a_DONE h0 n0 _ T1.heap _
    rw [e1]
    exact ⟨rfl, N0, rfl⟩
theorem pd___V : parseMethodDescriptor "()V" = some ⟨[], none⟩ := by decide +kernel
theorem d_prog_16_method_1_code_4 : decode prog_16_method_1_code 4 = .ok (.aload_n 1, 1) := by decide +kernel
theorem own_str {Z : State} {a0 : Array Value} (hw : ∀ d ∈ tables_1, d.before a0 Z = true) : ∀ d ∈ Bundle.stringAtoms, d.before a0 Z = true := fun d hd => hw d ((by decide +kernel : ∀ d ∈ Bundle.stringAtoms, d ∈ tables_1) d hd)
theorem d_prog_16_method_1_code_5 : decode prog_16_method_1_code 5 = .ok (.ldc 7, 2) := by decide +kernel
theorem d_prog_16_method_1_code_7 : decode prog_16_method_1_code 7 = .ok (.invokestatic 9, 3) := by decide +kernel
theorem ef_f2 (m : MethodId) (x0 : Addr) (x1 : Addr)  : entryFrame m #[(.ref x0), (.ref x1)] 2 = mkF m 0 #[.val (.ref x0), .val (.ref x1)] [] := by first | (simp [entryFrame, mkF, argsToLocals, Value.category]; done) | rfl
theorem d_jdk_31_method_11_code_0 : decode jdk_31_method_11_code 0 = .ok (.aload_n 0, 1) := by decide +kernel
theorem d_jdk_31_method_11_code_1 : decode jdk_31_method_11_code 1 = .ok (.ifnonnull 12, 3) := by decide +kernel
theorem d_jdk_31_method_11_code_13 : decode jdk_31_method_11_code 13 = .ok (.aload_n 0, 1) := by decide +kernel
theorem d_jdk_31_method_11_code_14 : decode jdk_31_method_11_code 14 = .ok (.areturn, 1) := by decide +kernel
theorem pn_java_util_Objects : plainName "java/util/Objects" = true := by first | (simp [plainName, overriddenIn]; done) | decide +kernel
abbrev own_m1 : MethodName := ⟨"java/util/Objects", "requireNonNull", "(Ljava/lang/Object;Ljava/lang/String;)Ljava/lang/Object;"⟩
def Q_f2 (Z : State) (q0 : Addr) (q1 : Addr) (a_DONE : Addr) (h0 : Heap) (n0 : Nat) (v : Option Value) (h : Heap) (L : List Loc) : Prop := v = some (.ref q0) ∧ Fr n0 L ∧ h = h0
set_option maxRecDepth 65536 in
set_option maxHeartbeats 40000000 in
theorem rm_f2 (l : Launch) (Z : State) (a0 : Array Value) (hw : ∀ d ∈ tables_1, d.before a0 Z = true) (ws : List Jvm.Cond) (q0 : Addr) (q1 : Addr) (a_DONE : Addr) (h0 : Heap) (n0 : Nat) (O0 : Old Z n0 h0) (hE : EV Z a_DONE) :
    MetFree l own_m1 (head1 (Jvm.Cond.code own_m1 jdk_31_method_11_code 2 (some (.object "java/lang/Object")) :: ws) ({ frames := 0, cells := 0, slots := 0, locals := 0 } : Room)) (fun a U => a = #[(.ref q0), (.ref q1)] ∧ Z.Warmed39 U.vm ∧ U.heap = h0) (fun _ _ _ _ _ => True) (fun _ U o U' => ∃ v L, o = .returned v ∧ Q_f2 Z q0 q1 a_DONE h0 n0 v U'.heap L ∧ FrameEnd U o U' L ({ frames := 0, cells := 0, slots := 0, locals := 0 } : Room).cells ({ frames := 0, cells := 0, slots := 0, locals := 0 } : Room).slots) := by
  refine MetFree.of_bodySF (plainFor_of_name pn_java_util_Objects) hisR ?_
  intro p e s m args below meth c s₁ Bd hml0 hP hK
  obtain ⟨rfl, hZ, hh⟩ := hP
  have hx := Bd.exec
  have hby := Bd.bytes
  have hml : c.maxLocals = 2 := hml0
  have hown : s.vm.findClass "java/util/Objects" = some m.cls := findClass_of_methodNamed Bd.named
  have hnm := (name_of_methodNamed Bd.named Bd.method).1
  have X0 : Stand p l e ({ frames := 0, cells := 0, slots := 0, locals := 0 } : Room) s m #[(.ref q0), (.ref q1)] below meth c s₁ [] 0 0 := Stand.of_body Bd
  have e0 : s₁.heap = h0 := by rw [← hh, Bd.state]; rfl
  have N0 := Fr.nil n0
  refine Classical.byContradiction fun hNG => ?_
  have K0 := Keep.refl h0 []
  have k0 : ∀ t, own_At p e below m s₁ 0 #[.val (.ref q0), .val (.ref q1)] [] t → own_En p e below m s₁ #[(.ref q0), (.ref q1)] 2 t := fun t k => castTop (ef_f2 m q0 q1 ) k
  obtain ⟨S_DONE, E_DONE⟩ := (id hE : EV Z a_DONE)
  have k1 : ∀ t, own_At p e below m s₁ 14 #[.val (.ref q0), .val (.ref q1)] [(.ref q0)] t → own_En p e below m s₁ #[(.ref q0), (.ref q1)] 2 t := by
    intro t k
    refine k0 t ?_
    refine XS.aloadN X0.here hx rfl (hb hby d_jdk_31_method_11_code_0) rfl rfl ?_
    show own_At p e below m s₁ 1 #[.val (.ref q0), .val (.ref q1)] [(.ref q0)] t
    refine XS.ifnonnullYes X0.here hx rfl (pc0 := 1) (pc' := 13) rfl (hb hby d_jdk_31_method_11_code_1) rfl (by decide) (by decide) ?_
    show own_At p e below m s₁ 13 #[.val (.ref q0), .val (.ref q1)] [] t
    refine XS.aloadN X0.here hx rfl (hb hby d_jdk_31_method_11_code_13) rfl rfl ?_
    show own_At p e below m s₁ 14 #[.val (.ref q0), .val (.ref q1)] [(.ref q0)] t
    exact k
  obtain ⟨fs, hr, hrun, hended, hW, hsame⟩ := X0.leave (v := some (.ref q0)) (fun h => by rw [Bd.returns] at h; cases h)
  refine hNG ⟨_, _, k1 _ ?_, hrun, hended, _, _, rfl, ?_, ⟨_, rfl⟩, hW, hsame.mono (by decide) (by decide)⟩
  · exact retOut X0 hx (t := (.object "java/lang/Object")) Bd.returns rfl (Or.inr (Or.inr (Or.inr (Or.inr ⟨rfl, rfl, rfl⟩)))) (hb hby d_jdk_31_method_11_code_14) hr
  · show Q_f2 Z q0 q1 a_DONE h0 n0 _ s₁.heap _
    rw [e0]
    exact ⟨rfl, N0, rfl⟩
theorem pd__Ljava_lang_Object_Ljava_lang_String__Ljava_lang_Object_ : parseMethodDescriptor "(Ljava/lang/Object;Ljava/lang/String;)Ljava/lang/Object;" = some ⟨[(.object "java/lang/Object"), (.object "java/lang/String")], some (.object "java/lang/Object")⟩ := by decide +kernel
theorem d_prog_16_method_1_code_10 : decode prog_16_method_1_code 10 = .ok (.pop, 1) := by decide +kernel
theorem d_prog_16_method_1_code_11 : decode prog_16_method_1_code 11 = .ok (.aload_n 2, 1) := by decide +kernel
theorem d_prog_16_method_1_code_12 : decode prog_16_method_1_code 12 = .ok (.ldc 15, 2) := by decide +kernel
theorem d_prog_16_method_1_code_14 : decode prog_16_method_1_code 14 = .ok (.invokestatic 9, 3) := by decide +kernel
theorem d_prog_16_method_1_code_17 : decode prog_16_method_1_code 17 = .ok (.pop, 1) := by decide +kernel
theorem d_prog_16_method_1_code_18 : decode prog_16_method_1_code 18 = .ok (.aload_n 0, 1) := by decide +kernel
theorem d_prog_16_method_1_code_19 : decode prog_16_method_1_code 19 = .ok (.aload_n 1, 1) := by decide +kernel
theorem d_prog_16_method_1_code_20 : decode prog_16_method_1_code 20 = .ok (.putfield 17, 3) := by decide +kernel
theorem d_prog_16_method_1_code_23 : decode prog_16_method_1_code 23 = .ok (.aload_n 0, 1) := by decide +kernel
theorem d_prog_16_method_1_code_24 : decode prog_16_method_1_code 24 = .ok (.aload_n 2, 1) := by decide +kernel
theorem d_prog_16_method_1_code_25 : decode prog_16_method_1_code 25 = .ok (.putfield 22, 3) := by decide +kernel
theorem d_prog_16_method_1_code_28 : decode prog_16_method_1_code 28 = .ok (.return_, 1) := by decide +kernel
theorem pn_com_example_attenuation_attenuation_core_Outcome : plainName "com/example/attenuation/attenuation/core/Outcome" = true := by first | (simp [plainName, overriddenIn]; done) | decide +kernel
abbrev own_m2 : MethodName := ⟨"com/example/attenuation/attenuation/core/Outcome", "<init>", "(Lcom/example/attenuation/attenuation/core/Outcome$Status;[B)V"⟩
def Q_ci (Z : State) (a1 : Addr) (r2 : Addr) (r3 : Addr) (a_DONE : Addr) (h0 : Heap) (n0 : Nat) (v : Option Value) (h : Heap) (L : List Loc) : Prop := v = none ∧ Fr n0 L ∧ Old Z n0 h ∧ Keep h0 h [a1] ∧ Exa Z h a1 "com/example/attenuation/attenuation/core/Outcome" ∧ Fld Z h a1 "com/example/attenuation/attenuation/core/Outcome" "status" "Lcom/example/attenuation/attenuation/core/Outcome$Status;" (.ref r2) ∧ Fld Z h a1 "com/example/attenuation/attenuation/core/Outcome" "body" "[B" (.ref r3)
set_option maxRecDepth 65536 in
set_option maxHeartbeats 40000000 in
theorem rm_ci (l : Launch) (Z : State) (a0 : Array Value) (hw : ∀ d ∈ tables_1, d.before a0 Z = true) (ws : List Jvm.Cond) (a1 : Addr) (r2 : Addr) (r3 : Addr) (a_DONE : Addr) (h0 : Heap) (n0 : Nat) (O0 : Old Z n0 h0) (hE : EV Z a_DONE) (F_status : Fld Z h0 a1 "com/example/attenuation/attenuation/core/Outcome" "status" "Lcom/example/attenuation/attenuation/core/Outcome$Status;" .null) (F_body : Fld Z h0 a1 "com/example/attenuation/attenuation/core/Outcome" "body" "[B" .null) (E_a1 : Exa Z h0 a1 "com/example/attenuation/attenuation/core/Outcome") (g_a1 : n0 ≤ a1) :
    MetFree l own_m2 (head1 (Jvm.Cond.code own_m2 prog_16_method_1_code 3 none :: ws) ({ frames := 2, cells := 4, slots := 48, locals := 24 } : Room)) (fun a U => a = #[(.ref a1), (.ref r2), (.ref r3)] ∧ Z.Warmed39 U.vm ∧ U.heap = h0) (fun _ _ _ _ _ => True) (fun _ U o U' => ∃ v L, o = .returned v ∧ Q_ci Z a1 r2 r3 a_DONE h0 n0 v U'.heap L ∧ ReturnedEndW U o U' L ({ frames := 2, cells := 4, slots := 48, locals := 24 } : Room).cells ({ frames := 2, cells := 4, slots := 48, locals := 24 } : Room).slots) := by
  refine MetFree.of_bodySF (plainFor_of_name pn_com_example_attenuation_attenuation_core_Outcome) hisR ?_
  intro p e s m args below meth c s₁ Bd hml0 hP hK
  obtain ⟨rfl, hZ, hh⟩ := hP
  have hx := Bd.exec
  have hby := Bd.bytes
  have hml : c.maxLocals = 3 := hml0
  have hown : s.vm.findClass "com/example/attenuation/attenuation/core/Outcome" = some m.cls := findClass_of_methodNamed Bd.named
  have hnm := (name_of_methodNamed Bd.named Bd.method).1
  have X0 : Stand p l e ({ frames := 2, cells := 4, slots := 48, locals := 24 } : Room) s m #[(.ref a1), (.ref r2), (.ref r3)] below meth c s₁ [] 0 0 := Stand.of_body Bd
  have e0 : s₁.heap = h0 := by rw [← hh, Bd.state]; rfl
  have N0 := Fr.nil n0
  refine Classical.byContradiction fun hNG => ?_
  have K0 := Keep.refl h0 [a1]
  have k0 : ∀ t, own_At p e below m s₁ 0 #[.val (.ref a1), .val (.ref r2), .val (.ref r3)] [] t → own_En p e below m s₁ #[(.ref a1), (.ref r2), (.ref r3)] 3 t := fun t k => castTop (ef_ci m a1 r2 r3 ) k
  have hS : s.Since s.vm 0 := (State.WarmedH.refl s).since 0
  have X0 : Stand p l e ({ frames := 2, cells := 4, slots := 48, locals := 24 } : Room) (s.setVm s.vm) m #[(.ref a1), (.ref r2), (.ref r3)] below meth c s₁ [] 0 0 := X0
  have hZ : Z.Warmed39 (s.setVm s.vm).vm := hZ
  have hown : (s.setVm s.vm).vm.findClass "com/example/attenuation/attenuation/core/Outcome" = some m.cls := hown
  obtain ⟨S_DONE, E_DONE⟩ := (id hE : EV Z a_DONE)
  obtain ⟨_, _, ⟨T1, L1, k1, n1⟩, -, X1, ⟨Lc1, hQ1, l1, y1, z1⟩, st1⟩ := X0.specialBack hx (y := own_m0) rfl hown (mvT hZ (own_w hw 13 rfl)) (mvT hZ (own_w hw 14 rfl)) (mvT hZ (own_w hw 17 rfl)) (by decide) (backOf (W := 0) (rm_f1 l Z a0 hw [] a1 _ h0 n0 O0 hE) hZ (own_w hw 17 rfl) (own_w hw 16 rfl) (by decide) (by decide)) (g := (mkF m 1 #[.val (.ref a1), .val (.ref r2), .val (.ref r3)] [(.ref a1)])) rfl (by rw [hml]; rfl) (Steps.refl _) (a := a1) (argsL := []) (rest := []) (lenOf pd___V rfl) rfl (by show 2 * 0 + _ ≤ _; exact Nat.le_of_eq rfl) (hb hby d_prog_16_method_1_code_1) (fun _ _ => ⟨rfl, e0, (by decide : 0 + 0 ≤ _), (by decide : 0 + 0 ≤ _)⟩)
  dsimp only [Pt.U, Pt.locs, Pt.cells, Pt.slots] at X1 l1 y1 z1 st1 hQ1
  subst l1 y1 z1
  obtain ⟨rfl, N1q, hp1⟩ := hQ1
  have N1 := Fr.app N0 N1q
  obtain ⟨a2, T2, h2, q2, X2, e2, E2, hS, hk2, hZ, hown, st2⟩ := ldcS X1 hx hZ hown (own_w hw 21 rfl) (own_str hw) hp1 hS (Nat.zero_le _) (g := (mkF m 5 #[.val (.ref a1), .val (.ref r2), .val (.ref r3)] [(.ref r2)])) rfl (hb hby d_prog_16_method_1_code_5) (n := 24) (by decide) (by decide) (by decide) (by decide)
  have O2 := O0.ext E2
  have K2 := K0.ext E2
  obtain ⟨_, _, ⟨T3, L3, k3, n3⟩, -, X3, ⟨Lc3, hQ3, l3, y3, z3⟩, st3⟩ := Jvm.LawKit.callS X2 hx (y := own_m1) hown (mvT hZ (own_w hw 28 rfl)) (mvT hZ (own_w hw 29 rfl)) (mvT hZ (own_w hw 30 rfl)) (mvT hZ (own_w hw 31 rfl)) (by decide) (backOf (W := 0) (rm_f2 l Z a0 hw [] r2 a2 _ h2 n0 O2 hE) hZ (own_w hw 31 rfl) (own_w hw 30 rfl) (by decide) (by decide)) (g := (mkF m 7 #[.val (.ref a1), .val (.ref r2), .val (.ref r3)] [(.ref a2), (.ref r2)])) rfl (by rw [hml]; rfl) (argsL := [(.ref r2), (.ref a2)]) (rest := []) (lenOf pd__Ljava_lang_Object_Ljava_lang_String__Ljava_lang_Object_ rfl) rfl (by show 2 * 0 + _ ≤ _; exact Nat.le_of_eq rfl) (hb hby d_prog_16_method_1_code_7) (fun _ _ => ⟨rfl, e2, (by decide : 2 + 0 ≤ _), (by decide : 28 + 0 ≤ _)⟩)
  dsimp only [Pt.U, Pt.locs, Pt.cells, Pt.slots] at X3 l3 y3 z3 st3 hQ3
  subst l3 y3 z3
  obtain ⟨rfl, N3q, hp3⟩ := hQ3
  have N3 := Fr.app N1 N3q
  obtain ⟨a4, T4, h4, q4, X4, e4, E4, hS, hk4, hZ, hown, st4⟩ := ldcS X3 hx hZ hown (own_w hw 32 rfl) (own_str hw) hp3 hS hk2 (g := (mkF m 12 #[.val (.ref a1), .val (.ref r2), .val (.ref r3)] [(.ref r3)])) rfl (hb hby d_prog_16_method_1_code_12) (n := 16) (by decide) (by decide) (by decide) (by decide)
  have O4 := O2.ext E4
  have K4 := K2.ext E4
  obtain ⟨_, _, ⟨T5, L5, k5, n5⟩, -, X5, ⟨Lc5, hQ5, l5, y5, z5⟩, st5⟩ := Jvm.LawKit.callS X4 hx (y := own_m1) hown (mvT hZ (own_w hw 28 rfl)) (mvT hZ (own_w hw 29 rfl)) (mvT hZ (own_w hw 30 rfl)) (mvT hZ (own_w hw 31 rfl)) (by decide) (backOf (W := 0) (rm_f2 l Z a0 hw [] r3 a4 _ h4 n0 O4 hE) hZ (own_w hw 31 rfl) (own_w hw 30 rfl) (by decide) (by decide)) (g := (mkF m 14 #[.val (.ref a1), .val (.ref r2), .val (.ref r3)] [(.ref a4), (.ref r3)])) rfl (by rw [hml]; rfl) (argsL := [(.ref r3), (.ref a4)]) (rest := []) (lenOf pd__Ljava_lang_Object_Ljava_lang_String__Ljava_lang_Object_ rfl) rfl (by show 2 * 0 + _ ≤ _; exact Nat.le_of_eq rfl) (hb hby d_prog_16_method_1_code_14) (fun _ _ => ⟨rfl, e4, (by decide : 4 + 0 ≤ _), (by decide : 48 + 0 ≤ _)⟩)
  dsimp only [Pt.U, Pt.locs, Pt.cells, Pt.slots] at X5 l5 y5 z5 st5 hQ5
  subst l5 y5 z5
  obtain ⟨rfl, N5q, hp5⟩ := hQ5
  have N5 := Fr.app N3 N5q
  have f6 := ((E_a1.ext E2).ext E4)
  have f7 := ((F_status.ext E2).ext E4)
  obtain ⟨T8, h8, X8, e8, W8, st8⟩ := putF X5 hx hZ hown (host := "") (Or.inl (own_w hw 33 rfl)) Via.refl hp5 f7 f6 (Or.inr ⟨(own_w hw 34 rfl), rfl, hnm⟩) (own_w hw 6 rfl) (ty := (.object "com/example/attenuation/attenuation/core/Outcome$Status")) (by decide) rfl rfl (g := (mkF m 20 #[.val (.ref a1), .val (.ref r2), .val (.ref r3)] [(.ref r2), (.ref a1)])) rfl rfl (hb hby d_prog_16_method_1_code_20)
  have F8_status := f7.same W8
  have N8 := Fr.snoc X8 N5 g_a1
  have O8 := O4.wr W8 g_a1
  have K8 := K4.wr W8 (Or.inl (List.mem_of_getElem? (i := 0) rfl))
  have f9 := (f6.wr W8)
  have f10 := (((F_body.ext E2).ext E4).other W8 (Or.inr (slot_ne (Or.inr (own_w hw 36 rfl)) (Or.inr (own_w hw 34 rfl)) (by decide) (t := (.array .byte)) (t' := (.object "com/example/attenuation/attenuation/core/Outcome$Status")) (by decide) (by decide))))
  obtain ⟨T11, h11, X11, e11, W11, st11⟩ := putF X8 hx hZ hown (host := "") (Or.inl (own_w hw 35 rfl)) Via.refl e8 f10 f9 (Or.inr ⟨(own_w hw 36 rfl), rfl, hnm⟩) (own_w hw 6 rfl) (ty := (.array .byte)) (by decide) rfl rfl (g := (mkF m 25 #[.val (.ref a1), .val (.ref r2), .val (.ref r3)] [(.ref r3), (.ref a1)])) rfl rfl (hb hby d_prog_16_method_1_code_25)
  have F11_body := f10.same W11
  have N11 := Fr.snoc X11 N8 g_a1
  have O11 := O8.wr W11 g_a1
  have K11 := K8.wr W11 (Or.inl (List.mem_of_getElem? (i := 0) rfl))
  have k12 : ∀ t, own_At p e below m T11 28 #[.val (.ref a1), .val (.ref r2), .val (.ref r3)] [] t → own_En p e below m s₁ #[(.ref a1), (.ref r2), (.ref r3)] 3 t := by
    intro t k
    refine k0 t ?_
    refine XS.aloadN X0.here hx rfl (hb hby d_prog_16_method_1_code_0) rfl rfl ?_
    show own_At p e below m s₁ 1 #[.val (.ref a1), .val (.ref r2), .val (.ref r3)] [(.ref a1)] t
    refine st1.trans ?_
    show own_At p e below m T1 4 #[.val (.ref a1), .val (.ref r2), .val (.ref r3)] [] t
    refine XS.aloadN X1.here hx rfl (hb hby d_prog_16_method_1_code_4) rfl rfl ?_
    show own_At p e below m T1 5 #[.val (.ref a1), .val (.ref r2), .val (.ref r3)] [(.ref r2)] t
    refine st2 _ ?_
    show own_At p e below m T2 7 #[.val (.ref a1), .val (.ref r2), .val (.ref r3)] [(.ref a2), (.ref r2)] t
    refine st3 _ ?_
    show own_At p e below m T3 10 #[.val (.ref a1), .val (.ref r2), .val (.ref r3)] [(.ref r2)] t
    refine XS.pop X3.here hx rfl (hb hby d_prog_16_method_1_code_10) rfl rfl ?_
    show own_At p e below m T3 11 #[.val (.ref a1), .val (.ref r2), .val (.ref r3)] [] t
    refine XS.aloadN X3.here hx rfl (hb hby d_prog_16_method_1_code_11) rfl rfl ?_
    show own_At p e below m T3 12 #[.val (.ref a1), .val (.ref r2), .val (.ref r3)] [(.ref r3)] t
    refine st4 _ ?_
    show own_At p e below m T4 14 #[.val (.ref a1), .val (.ref r2), .val (.ref r3)] [(.ref a4), (.ref r3)] t
    refine st5 _ ?_
    show own_At p e below m T5 17 #[.val (.ref a1), .val (.ref r2), .val (.ref r3)] [(.ref r3)] t
    refine XS.pop X5.here hx rfl (hb hby d_prog_16_method_1_code_17) rfl rfl ?_
    show own_At p e below m T5 18 #[.val (.ref a1), .val (.ref r2), .val (.ref r3)] [] t
    refine XS.aloadN X5.here hx rfl (hb hby d_prog_16_method_1_code_18) rfl rfl ?_
    show own_At p e below m T5 19 #[.val (.ref a1), .val (.ref r2), .val (.ref r3)] [(.ref a1)] t
    refine XS.aloadN X5.here hx rfl (hb hby d_prog_16_method_1_code_19) rfl rfl ?_
    show own_At p e below m T5 20 #[.val (.ref a1), .val (.ref r2), .val (.ref r3)] [(.ref r2), (.ref a1)] t
    refine st8 _ ?_
    show own_At p e below m T8 23 #[.val (.ref a1), .val (.ref r2), .val (.ref r3)] [] t
    refine XS.aloadN X8.here hx rfl (hb hby d_prog_16_method_1_code_23) rfl rfl ?_
    show own_At p e below m T8 24 #[.val (.ref a1), .val (.ref r2), .val (.ref r3)] [(.ref a1)] t
    refine XS.aloadN X8.here hx rfl (hb hby d_prog_16_method_1_code_24) rfl rfl ?_
    show own_At p e below m T8 25 #[.val (.ref a1), .val (.ref r2), .val (.ref r3)] [(.ref r3), (.ref a1)] t
    refine st11 _ ?_
    show own_At p e below m T11 28 #[.val (.ref a1), .val (.ref r2), .val (.ref r3)] [] t
    exact k
  have f13 := (F8_status.other W11 (Or.inr (slot_ne (Or.inr (own_w hw 34 rfl)) (Or.inr (own_w hw 36 rfl)) (by decide) (t := (.object "com/example/attenuation/attenuation/core/Outcome$Status")) (t' := (.array .byte)) (by decide) (by decide))))
  have f14 := (f9.wr W11)
  obtain ⟨fs, hr, hrun, hended, hRW⟩ := X11.leaveW hS (by rw [e11]; exact (Nat.le_trans (Nat.le_trans hk4 (Keep.of_wr W8).1) (Keep.of_wr W11).1)) (v := none) (fun _ => rfl)
  refine hNG ⟨_, _, k12 _ ?_, hrun, hended, _, _, rfl, ?_, hRW.1, hRW.2.1, hRW.2.2.1, hRW.2.2.2.mono (by decide) (by decide)⟩
  · exact X11.returnOut hx Bd.returns (hb hby d_prog_16_method_1_code_28) hr
  · show Q_ci Z a1 r2 r3 a_DONE h0 n0 _ T11.heap _
    rw [e11]
    exact ⟨rfl, N11, O11, K11, f14, f13, F11_body⟩
theorem ef_dn (m : MethodId) (x0 : Addr)  : entryFrame m #[(.ref x0)] 1 = mkF m 0 #[.val (.ref x0)] [] := by first | (simp [entryFrame, mkF, argsToLocals, Value.category]; done) | rfl
theorem d_prog_16_method_2_code_0 : decode prog_16_method_2_code 0 = .ok (.new 18, 3) := by decide +kernel
theorem d_prog_16_method_2_code_3 : decode prog_16_method_2_code 3 = .ok (.dup, 1) := by decide +kernel
theorem d_prog_16_method_2_code_4 : decode prog_16_method_2_code 4 = .ok (.getstatic 25, 3) := by decide +kernel
theorem d_prog_16_method_2_code_7 : decode prog_16_method_2_code 7 = .ok (.aload_n 0, 1) := by decide +kernel
theorem d_prog_16_method_2_code_8 : decode prog_16_method_2_code 8 = .ok (.invokespecial 30, 3) := by decide +kernel
theorem pd__Lcom_example_attenuation_attenuation_core_Outcome_Status__B_V : parseMethodDescriptor "(Lcom/example/attenuation/attenuation/core/Outcome$Status;[B)V" = some ⟨[(.object "com/example/attenuation/attenuation/core/Outcome$Status"), (.array .byte)], none⟩ := by decide +kernel
theorem d_prog_16_method_2_code_11 : decode prog_16_method_2_code 11 = .ok (.areturn, 1) := by decide +kernel
abbrev own_m3 : MethodName := ⟨"com/example/attenuation/attenuation/core/Outcome", "done", "([B)Lcom/example/attenuation/attenuation/core/Outcome;"⟩
def Q_dn (Z : State) (q0 : Addr) (a_DONE : Addr) (h0 : Heap) (n0 : Nat) (v : Option Value) (h : Heap) (L : List Loc) : Prop := ∃ (b : Addr), v = some (.ref b) ∧ Fr n0 L ∧ Old Z n0 h ∧ Keep h0 h [] ∧ n0 ≤ b ∧ h0.size ≤ b ∧ Exa Z h b "com/example/attenuation/attenuation/core/Outcome" ∧ Fld Z h b "com/example/attenuation/attenuation/core/Outcome" "status" "Lcom/example/attenuation/attenuation/core/Outcome$Status;" (.ref a_DONE) ∧ Fld Z h b "com/example/attenuation/attenuation/core/Outcome" "body" "[B" (.ref q0)
set_option maxRecDepth 65536 in
set_option maxHeartbeats 40000000 in
theorem rm_dn (l : Launch) (Z : State) (a0 : Array Value) (hw : ∀ d ∈ tables_1, d.before a0 Z = true) (ws : List Jvm.Cond) (q0 : Addr) (a_DONE : Addr) (h0 : Heap) (n0 : Nat) (O0 : Old Z n0 h0) (hE : EV Z a_DONE) :
    MetFree l own_m3 (head1 (Jvm.Cond.code own_m3 prog_16_method_2_code 1 (some (.object "com/example/attenuation/attenuation/core/Outcome")) :: ws) ({ frames := 3, cells := 5, slots := 50, locals := 39 } : Room)) (fun a U => a = #[(.ref q0)] ∧ Z.Warmed39 U.vm ∧ U.heap = h0) (fun _ _ _ _ _ => True) (fun _ U o U' => ∃ v L, o = .returned v ∧ Q_dn Z q0 a_DONE h0 n0 v U'.heap L ∧ ReturnedEndW U o U' L ({ frames := 3, cells := 5, slots := 50, locals := 39 } : Room).cells ({ frames := 3, cells := 5, slots := 50, locals := 39 } : Room).slots) := by
  refine MetFree.of_bodySF (plainFor_of_name pn_com_example_attenuation_attenuation_core_Outcome) hisR ?_
  intro p e s m args below meth c s₁ Bd hml0 hP hK
  obtain ⟨rfl, hZ, hh⟩ := hP
  have hx := Bd.exec
  have hby := Bd.bytes
  have hml : c.maxLocals = 1 := hml0
  have hown : s.vm.findClass "com/example/attenuation/attenuation/core/Outcome" = some m.cls := findClass_of_methodNamed Bd.named
  have hnm := (name_of_methodNamed Bd.named Bd.method).1
  have X0 : Stand p l e ({ frames := 3, cells := 5, slots := 50, locals := 39 } : Room) s m #[(.ref q0)] below meth c s₁ [] 0 0 := Stand.of_body Bd
  have e0 : s₁.heap = h0 := by rw [← hh, Bd.state]; rfl
  have N0 := Fr.nil n0
  refine Classical.byContradiction fun hNG => ?_
  have K0 := Keep.refl h0 []
  have k0 : ∀ t, own_At p e below m s₁ 0 #[.val (.ref q0)] [] t → own_En p e below m s₁ #[(.ref q0)] 1 t := fun t k => castTop (ef_dn m q0 ) k
  have hS : s.Since s.vm 0 := (State.WarmedH.refl s).since 0
  have X0 : Stand p l e ({ frames := 3, cells := 5, slots := 50, locals := 39 } : Room) (s.setVm s.vm) m #[(.ref q0)] below meth c s₁ [] 0 0 := X0
  have hZ : Z.Warmed39 (s.setVm s.vm).vm := hZ
  have hown : (s.setVm s.vm).vm.findClass "com/example/attenuation/attenuation/core/Outcome" = some m.cls := hown
  obtain ⟨S_DONE, E_DONE⟩ := (id hE : EV Z a_DONE)
  obtain ⟨T1, h1, X1, e1, E1, A1, D1, -, st1⟩ := newO X0 hx hZ hown (own_w hw 5 rfl) (own_w hw 6 rfl) (own_w hw 3 rfl) e0 (g := (mkF m 0 #[.val (.ref q0)] [])) rfl (hb hby d_prog_16_method_2_code_0) (by decide) (by decide)
  obtain ⟨b1, g1⟩ : ∃ z, z = h0.size := ⟨_, rfl⟩
  rw [← g1] at A1 D1 st1
  have O1 := O0.ext E1
  have g_b1 : n0 ≤ b1 := Nat.le_trans (Nat.le_of_eq O0.1.symm) (Nat.le_trans O0.2.1 (Nat.le_of_eq g1.symm))
  have s_b1 : h0.size ≤ b1 := Nat.le_trans K0.1 (Nat.le_of_eq g1.symm)
  have K1 := K0.ext E1
  have lt_b1 := A1.lt
  have F1_status : Fld Z h1 b1 "com/example/attenuation/attenuation/core/Outcome" "status" "Lcom/example/attenuation/attenuation/core/Outcome$Status;" .null := D1 (Or.inr (own_w hw 34 rfl)) (ty := (.object "com/example/attenuation/attenuation/core/Outcome$Status")) (by decide)
  have F1_body : Fld Z h1 b1 "com/example/attenuation/attenuation/core/Outcome" "body" "[B" .null := D1 (Or.inr (own_w hw 36 rfl)) (ty := (.array .byte)) (by decide)
  obtain ⟨T2, X2, e2, st2⟩ := getS2 X1 hx hZ hown (host := "") (Or.inl (own_w hw 7 rfl)) Via.refl e1 (S_DONE.ext O1.2) (g := (mkF m 4 #[.val (.ref q0)] [(.ref b1), (.ref b1)])) rfl (hb hby d_prog_16_method_2_code_4)
  obtain ⟨_, _, ⟨T3, L3, k3, n3⟩, -, X3, hS3, hg3, ⟨Lc3, hQ3, l3, y3, z3⟩, st3⟩ := X2.specialBackS hx (y := own_m2) rfl hown (mvT hZ (own_w hw 10 rfl)) (mvT hZ (own_w hw 11 rfl)) (mvT hZ (own_w hw 12 rfl)) (by decide) (backOfS (W := 1) (rm_ci l Z a0 hw [] b1 a_DONE q0 _ h1 n0 O1 hE F1_status F1_body A1 g_b1 ) hZ (own_w hw 12 rfl) (own_w hw 3 rfl) (by decide) (by decide)) (g := (mkF m 8 #[.val (.ref q0)] [(.ref q0), (.ref a_DONE), (.ref b1), (.ref b1)])) rfl (by rw [hml]; rfl) (Steps.refl _) (a := b1) (argsL := [(.ref a_DONE), (.ref q0)]) (rest := [(.ref b1)]) (lenOf pd__Lcom_example_attenuation_attenuation_core_Outcome_Status__B_V rfl) rfl (by show 2 * 0 + _ ≤ _; exact Nat.le_of_eq rfl) (hb hby d_prog_16_method_2_code_8) (fun _ _ => ⟨rfl, e2, (by decide : 1 + 4 ≤ _), (by decide : 2 + 48 ≤ _)⟩)
  dsimp only [Pt.U, Pt.locs, Pt.cells, Pt.slots] at X3 l3 y3 z3 st3 hQ3 hS3 hg3
  subst l3 y3 z3
  obtain ⟨X3, hS, hZ, hown⟩ := rebS hS (by rw [e2]; exact (Nat.le_trans (Nat.zero_le _) E1.1)) X3 hS3 hg3 hZ hown
  obtain ⟨rfl, N3q, O3, Kc3, Ex3, G3_0, G3_1⟩ := hQ3
  have N3 := Fr.app N0 N3q
  have K3 := K1.trans Kc3 (allS (Or.inr s_b1) all0)
  have k4 : ∀ t, own_At p e below m T3 11 #[.val (.ref q0)] [(.ref b1)] t → own_En p e below m s₁ #[(.ref q0)] 1 t := by
    intro t k
    refine k0 t ?_
    refine st1 _ ?_
    show own_At p e below m T1 3 #[.val (.ref q0)] [(.ref b1)] t
    refine XS.dup X1.here hx rfl (hb hby d_prog_16_method_2_code_3) rfl rfl ?_
    show own_At p e below m T1 4 #[.val (.ref q0)] [(.ref b1), (.ref b1)] t
    refine st2 _ ?_
    show own_At p e below m T2 7 #[.val (.ref q0)] [(.ref a_DONE), (.ref b1), (.ref b1)] t
    refine XS.aloadN X2.here hx rfl (hb hby d_prog_16_method_2_code_7) rfl rfl ?_
    show own_At p e below m T2 8 #[.val (.ref q0)] [(.ref q0), (.ref a_DONE), (.ref b1), (.ref b1)] t
    refine st3.trans ?_
    show own_At p e below m T3 11 #[.val (.ref q0)] [(.ref b1)] t
    exact k
  obtain ⟨fs, hr, hrun, hended, hRW⟩ := X3.leaveW hS (by exact (Nat.le_refl _)) (v := some (.ref b1)) (fun h => by rw [Bd.returns] at h; cases h)
  refine hNG ⟨_, _, k4 _ ?_, hrun, hended, _, _, rfl, ?_, hRW.1, hRW.2.1, hRW.2.2.1, hRW.2.2.2.mono (by decide) (by decide)⟩
  · exact retOut X3 hx (t := (.object "com/example/attenuation/attenuation/core/Outcome")) Bd.returns rfl (Or.inr (Or.inr (Or.inr (Or.inr ⟨rfl, rfl, rfl⟩)))) (hb hby d_prog_16_method_2_code_11) hr
  · show Q_dn Z q0 a_DONE h0 n0 _ T3.heap _
    exact ⟨b1, rfl, N3, O3, K3, g_b1, s_b1, Ex3, G3_0, G3_1⟩
theorem ef_gs (m : MethodId) (x0 : Addr)  : entryFrame m #[(.ref x0)] 1 = mkF m 0 #[.val (.ref x0)] [] := by first | (simp [entryFrame, mkF, argsToLocals, Value.category]; done) | rfl
theorem d_prog_16_method_15_code_0 : decode prog_16_method_15_code 0 = .ok (.aload_n 0, 1) := by decide +kernel
theorem d_prog_16_method_15_code_1 : decode prog_16_method_15_code 1 = .ok (.getfield 17, 3) := by decide +kernel
theorem d_prog_16_method_15_code_4 : decode prog_16_method_15_code 4 = .ok (.areturn, 1) := by decide +kernel
abbrev own_m4 : MethodName := ⟨"com/example/attenuation/attenuation/core/Outcome", "status", "()Lcom/example/attenuation/attenuation/core/Outcome$Status;"⟩
def Q_gs (Z : State) (q0 : Addr) (r0 : Addr) (a_DONE : Addr) (h0 : Heap) (n0 : Nat) (v : Option Value) (h : Heap) (L : List Loc) : Prop := v = some (.ref r0) ∧ Fr n0 L ∧ h = h0
set_option maxRecDepth 65536 in
set_option maxHeartbeats 40000000 in
theorem rm_gs (l : Launch) (Z : State) (a0 : Array Value) (hw : ∀ d ∈ tables_1, d.before a0 Z = true) (ws : List Jvm.Cond) (q0 : Addr) (r0 : Addr) (a_DONE : Addr) (h0 : Heap) (n0 : Nat) (O0 : Old Z n0 h0) (hE : EV Z a_DONE) (P0 : Fld Z h0 q0 "com/example/attenuation/attenuation/core/Outcome" "status" "Lcom/example/attenuation/attenuation/core/Outcome$Status;" (.ref r0)) :
    MetFree l own_m4 (head1 (Jvm.Cond.code own_m4 prog_16_method_15_code 1 (some (.object "com/example/attenuation/attenuation/core/Outcome$Status")) :: ws) ({ frames := 0, cells := 0, slots := 0, locals := 0 } : Room)) (fun a U => a = #[(.ref q0)] ∧ Z.Warmed39 U.vm ∧ U.heap = h0) (fun _ _ _ _ _ => True) (fun _ U o U' => ∃ v L, o = .returned v ∧ Q_gs Z q0 r0 a_DONE h0 n0 v U'.heap L ∧ FrameEnd U o U' L ({ frames := 0, cells := 0, slots := 0, locals := 0 } : Room).cells ({ frames := 0, cells := 0, slots := 0, locals := 0 } : Room).slots) := by
  refine MetFree.of_bodySF (plainFor_of_name pn_com_example_attenuation_attenuation_core_Outcome) hisR ?_
  intro p e s m args below meth c s₁ Bd hml0 hP hK
  obtain ⟨rfl, hZ, hh⟩ := hP
  have hx := Bd.exec
  have hby := Bd.bytes
  have hml : c.maxLocals = 1 := hml0
  have hown : s.vm.findClass "com/example/attenuation/attenuation/core/Outcome" = some m.cls := findClass_of_methodNamed Bd.named
  have hnm := (name_of_methodNamed Bd.named Bd.method).1
  have X0 : Stand p l e ({ frames := 0, cells := 0, slots := 0, locals := 0 } : Room) s m #[(.ref q0)] below meth c s₁ [] 0 0 := Stand.of_body Bd
  have e0 : s₁.heap = h0 := by rw [← hh, Bd.state]; rfl
  have N0 := Fr.nil n0
  refine Classical.byContradiction fun hNG => ?_
  have K0 := Keep.refl h0 []
  have k0 : ∀ t, own_At p e below m s₁ 0 #[.val (.ref q0)] [] t → own_En p e below m s₁ #[(.ref q0)] 1 t := fun t k => castTop (ef_gs m q0 ) k
  obtain ⟨S_DONE, E_DONE⟩ := (id hE : EV Z a_DONE)
  obtain ⟨T1, X1, e1, st1⟩ := getF X0 hx hZ hown (host := "") (Or.inl (own_w hw 33 rfl)) Via.refl e0 P0 (g := (mkF m 1 #[.val (.ref q0)] [(.ref q0)])) rfl rfl (hb hby d_prog_16_method_15_code_1)
  have k2 : ∀ t, own_At p e below m T1 4 #[.val (.ref q0)] [(.ref r0)] t → own_En p e below m s₁ #[(.ref q0)] 1 t := by
    intro t k
    refine k0 t ?_
    refine XS.aloadN X0.here hx rfl (hb hby d_prog_16_method_15_code_0) rfl rfl ?_
    show own_At p e below m s₁ 1 #[.val (.ref q0)] [(.ref q0)] t
    refine st1 _ ?_
    show own_At p e below m T1 4 #[.val (.ref q0)] [(.ref r0)] t
    exact k
  obtain ⟨fs, hr, hrun, hended, hW, hsame⟩ := X1.leave (v := some (.ref r0)) (fun h => by rw [Bd.returns] at h; cases h)
  refine hNG ⟨_, _, k2 _ ?_, hrun, hended, _, _, rfl, ?_, ⟨_, rfl⟩, hW, hsame.mono (by decide) (by decide)⟩
  · exact retOut X1 hx (t := (.object "com/example/attenuation/attenuation/core/Outcome$Status")) Bd.returns rfl (Or.inr (Or.inr (Or.inr (Or.inr ⟨rfl, rfl, rfl⟩)))) (hb hby d_prog_16_method_15_code_4) hr
  · show Q_gs Z q0 r0 a_DONE h0 n0 _ T1.heap _
    rw [e1]
    exact ⟨rfl, N0, rfl⟩
theorem ef_gb (m : MethodId) (x0 : Addr)  : entryFrame m #[(.ref x0)] 1 = mkF m 0 #[.val (.ref x0)] [] := by first | (simp [entryFrame, mkF, argsToLocals, Value.category]; done) | rfl
theorem d_prog_16_method_16_code_0 : decode prog_16_method_16_code 0 = .ok (.aload_n 0, 1) := by decide +kernel
theorem d_prog_16_method_16_code_1 : decode prog_16_method_16_code 1 = .ok (.getfield 22, 3) := by decide +kernel
theorem d_prog_16_method_16_code_4 : decode prog_16_method_16_code 4 = .ok (.areturn, 1) := by decide +kernel
abbrev own_m5 : MethodName := ⟨"com/example/attenuation/attenuation/core/Outcome", "body", "()[B"⟩
def Q_gb (Z : State) (q0 : Addr) (r0 : Addr) (a_DONE : Addr) (h0 : Heap) (n0 : Nat) (v : Option Value) (h : Heap) (L : List Loc) : Prop := v = some (.ref r0) ∧ Fr n0 L ∧ h = h0
set_option maxRecDepth 65536 in
set_option maxHeartbeats 40000000 in
theorem rm_gb (l : Launch) (Z : State) (a0 : Array Value) (hw : ∀ d ∈ tables_1, d.before a0 Z = true) (ws : List Jvm.Cond) (q0 : Addr) (r0 : Addr) (a_DONE : Addr) (h0 : Heap) (n0 : Nat) (O0 : Old Z n0 h0) (hE : EV Z a_DONE) (P0 : Fld Z h0 q0 "com/example/attenuation/attenuation/core/Outcome" "body" "[B" (.ref r0)) :
    MetFree l own_m5 (head1 (Jvm.Cond.code own_m5 prog_16_method_16_code 1 (some (.array .byte)) :: ws) ({ frames := 0, cells := 0, slots := 0, locals := 0 } : Room)) (fun a U => a = #[(.ref q0)] ∧ Z.Warmed39 U.vm ∧ U.heap = h0) (fun _ _ _ _ _ => True) (fun _ U o U' => ∃ v L, o = .returned v ∧ Q_gb Z q0 r0 a_DONE h0 n0 v U'.heap L ∧ FrameEnd U o U' L ({ frames := 0, cells := 0, slots := 0, locals := 0 } : Room).cells ({ frames := 0, cells := 0, slots := 0, locals := 0 } : Room).slots) := by
  refine MetFree.of_bodySF (plainFor_of_name pn_com_example_attenuation_attenuation_core_Outcome) hisR ?_
  intro p e s m args below meth c s₁ Bd hml0 hP hK
  obtain ⟨rfl, hZ, hh⟩ := hP
  have hx := Bd.exec
  have hby := Bd.bytes
  have hml : c.maxLocals = 1 := hml0
  have hown : s.vm.findClass "com/example/attenuation/attenuation/core/Outcome" = some m.cls := findClass_of_methodNamed Bd.named
  have hnm := (name_of_methodNamed Bd.named Bd.method).1
  have X0 : Stand p l e ({ frames := 0, cells := 0, slots := 0, locals := 0 } : Room) s m #[(.ref q0)] below meth c s₁ [] 0 0 := Stand.of_body Bd
  have e0 : s₁.heap = h0 := by rw [← hh, Bd.state]; rfl
  have N0 := Fr.nil n0
  refine Classical.byContradiction fun hNG => ?_
  have K0 := Keep.refl h0 []
  have k0 : ∀ t, own_At p e below m s₁ 0 #[.val (.ref q0)] [] t → own_En p e below m s₁ #[(.ref q0)] 1 t := fun t k => castTop (ef_gb m q0 ) k
  obtain ⟨S_DONE, E_DONE⟩ := (id hE : EV Z a_DONE)
  obtain ⟨T1, X1, e1, st1⟩ := getF X0 hx hZ hown (host := "") (Or.inl (own_w hw 35 rfl)) Via.refl e0 P0 (g := (mkF m 1 #[.val (.ref q0)] [(.ref q0)])) rfl rfl (hb hby d_prog_16_method_16_code_1)
  have k2 : ∀ t, own_At p e below m T1 4 #[.val (.ref q0)] [(.ref r0)] t → own_En p e below m s₁ #[(.ref q0)] 1 t := by
    intro t k
    refine k0 t ?_
    refine XS.aloadN X0.here hx rfl (hb hby d_prog_16_method_16_code_0) rfl rfl ?_
    show own_At p e below m s₁ 1 #[.val (.ref q0)] [(.ref q0)] t
    refine st1 _ ?_
    show own_At p e below m T1 4 #[.val (.ref q0)] [(.ref r0)] t
    exact k
  obtain ⟨fs, hr, hrun, hended, hW, hsame⟩ := X1.leave (v := some (.ref r0)) (fun h => by rw [Bd.returns] at h; cases h)
  refine hNG ⟨_, _, k2 _ ?_, hrun, hended, _, _, rfl, ?_, ⟨_, rfl⟩, hW, hsame.mono (by decide) (by decide)⟩
  · exact retOut X1 hx (t := (.array .byte)) Bd.returns rfl (Or.inr (Or.inr (Or.inr (Or.inr ⟨rfl, rfl, rfl⟩)))) (hb hby d_prog_16_method_16_code_4) hr
  · show Q_gb Z q0 r0 a_DONE h0 n0 _ T1.heap _
    rw [e1]
    exact ⟨rfl, N0, rfl⟩
theorem own_and3 (p : Int32) : (p &&& (3 : Int32)) = (0 : Int32) ∨ (p &&& (3 : Int32)) = (1 : Int32) ∨ (p &&& (3 : Int32)) = (2 : Int32) ∨ (p &&& (3 : Int32)) = (3 : Int32) := by
  have e := c_mask p (3 : Int32) 2 (by decide) (by decide)
  have e0 : (0 : Int32).toInt = 0 := by decide
  have e1 : (1 : Int32).toInt = 1 := by decide
  have e2 : (2 : Int32).toInt = 2 := by decide
  have e3 : (3 : Int32).toInt = 3 := by decide
  simp only [← Int32.toInt_inj, e, e0, e1, e2, e3]
  omega
theorem ef_law (m : MethodId) (x0 : Int32) (x1 : Int32) (x2 : Int32) (x3 : Int32)  : entryFrame m #[(.int x0), (.int x1), (.int x2), (.int x3)] maxLocals = mkF m 0 #[.val (.int x0), .val (.int x1), .val (.int x2), .val (.int x3), .unset, .unset, .unset, .unset] [] := by first | (simp [entryFrame, mkF, argsToLocals, Value.category, maxLocals]; done) | rfl
theorem pd___B_Lcom_example_attenuation_attenuation_core_Outcome_ : parseMethodDescriptor "([B)Lcom/example/attenuation/attenuation/core/Outcome;" = some ⟨[(.array .byte)], some (.object "com/example/attenuation/attenuation/core/Outcome")⟩ := by decide +kernel
theorem pd___Lcom_example_attenuation_attenuation_core_Outcome_Status_ : parseMethodDescriptor "()Lcom/example/attenuation/attenuation/core/Outcome$Status;" = some ⟨[], some (.object "com/example/attenuation/attenuation/core/Outcome$Status")⟩ := by decide +kernel
theorem pd____B : parseMethodDescriptor "()[B" = some ⟨[], some (.array .byte)⟩ := by decide +kernel
theorem pn_com_example_attenuation_attenuation_core_OutcomeDonePinLaw : plainName "com/example/attenuation/attenuation/core/OutcomeDonePinLaw" = true := by first | (simp [plainName, overriddenIn]; done) | decide +kernel
def Q_law (Z : State) (p0 : Int32) (p1 : Int32) (p2 : Int32) (p3 : Int32) (a_DONE : Addr) (h0 : Heap) (n0 : Nat) (v : Option Value) (h : Heap) (L : List Loc) : Prop := v = some (.int (1 : Int32)) ∧ Fr n0 L
set_option maxRecDepth 65536 in
set_option maxHeartbeats 40000000 in
theorem rm_law (l : Launch) (Z : State) (a0 : Array Value) (hw : ∀ d ∈ tables_1, d.before a0 Z = true) (ws : List Jvm.Cond) (p0 : Int32) (p1 : Int32) (p2 : Int32) (p3 : Int32) (a_DONE : Addr) (h0 : Heap) (n0 : Nat) (O0 : Old Z n0 h0) (hE : EV Z a_DONE) :
    MetFree l x (head1 (Jvm.Cond.code x code maxLocals ret :: ws) room_1) (fun a U => a = #[(.int p0), (.int p1), (.int p2), (.int p3)] ∧ Z.Warmed39 U.vm ∧ U.heap = h0) (fun _ _ _ _ _ => True) (fun _ U o U' => ∃ v L, o = .returned v ∧ Q_law Z p0 p1 p2 p3 a_DONE h0 n0 v U'.heap L ∧ ReturnedEndW U o U' L 6 53) := by
  refine MetFree.of_bodySF (plainFor_of_name pn_com_example_attenuation_attenuation_core_OutcomeDonePinLaw) hisR ?_
  intro p e s m args below meth c s₁ Bd hml0 hP hK
  obtain ⟨rfl, hZ, hh⟩ := hP
  have hx := Bd.exec
  have hby := Bd.bytes
  have hml : c.maxLocals = 8 := hml0
  have hown : s.vm.findClass "com/example/attenuation/attenuation/core/OutcomeDonePinLaw" = some m.cls := findClass_of_methodNamed Bd.named
  have hnm := (name_of_methodNamed Bd.named Bd.method).1
  have X0 : Stand p l e room_1 s m #[(.int p0), (.int p1), (.int p2), (.int p3)] below meth c s₁ [] 0 0 := Stand.of_body Bd
  have e0 : s₁.heap = h0 := by rw [← hh, Bd.state]; rfl
  have N0 := Fr.nil n0
  refine Classical.byContradiction fun hNG => ?_
  have K0 := Keep.refl h0 []
  have k0 : ∀ t, own_At p e below m s₁ 0 #[.val (.int p0), .val (.int p1), .val (.int p2), .val (.int p3), .unset, .unset, .unset, .unset] [] t → own_En p e below m s₁ #[(.int p0), (.int p1), (.int p2), (.int p3)] maxLocals t := fun t k => castTop (ef_law m p0 p1 p2 p3 ) k
  have hS : s.Since s.vm 0 := (State.WarmedH.refl s).since 0
  have X0 : Stand p l e room_1 (s.setVm s.vm) m #[(.int p0), (.int p1), (.int p2), (.int p3)] below meth c s₁ [] 0 0 := X0
  have hZ : Z.Warmed39 (s.setVm s.vm).vm := hZ
  have hown : (s.setVm s.vm).vm.findClass "com/example/attenuation/attenuation/core/OutcomeDonePinLaw" = some m.cls := hown
  obtain ⟨S_DONE, E_DONE⟩ := (id hE : EV Z a_DONE)
  have k1 : ∀ t, own_At p e below m s₁ 3 #[.val (.int p0), .val (.int p1), .val (.int p2), .val (.int p3), .unset, .unset, .unset, .unset] [(.int (p0 &&& (3 : Int32)))] t → own_En p e below m s₁ #[(.int p0), (.int p1), (.int p2), (.int p3)] maxLocals t := by
    intro t k
    refine k0 t ?_
    refine XS.iloadN X0.here hx rfl (hb hby at_0) rfl ?_
    show own_At p e below m s₁ 1 #[.val (.int p0), .val (.int p1), .val (.int p2), .val (.int p3), .unset, .unset, .unset, .unset] [(.int p0)] t
    refine XS.iconst X0.here hx rfl (hb hby at_1) ?_
    show own_At p e below m s₁ 2 #[.val (.int p0), .val (.int p1), .val (.int p2), .val (.int p3), .unset, .unset, .unset, .unset] [(.int (3 : Int32)), (.int p0)] t
    refine XS.iand X0.here hx rfl (hb hby at_2) rfl ?_
    show own_At p e below m s₁ 3 #[.val (.int p0), .val (.int p1), .val (.int p2), .val (.int p3), .unset, .unset, .unset, .unset] [(.int (p0 &&& (3 : Int32)))] t
    exact k
  rcases own_and3 p0 with hs2 | hs2 | hs2 | hs2
  · have k3 : ∀ t, own_At p e below m s₁ 3 #[.val (.int p0), .val (.int p1), .val (.int p2), .val (.int p3), .unset, .unset, .unset, .unset] [(.int (0 : Int32))] t → own_En p e below m s₁ #[(.int p0), (.int p1), (.int p2), (.int p3)] maxLocals t := by
      intro t k
      refine k1 t ?_
      rw [hs2]
      exact k
    obtain ⟨T4, h4, c4, X4, e4, E4, A4, st4⟩ := newP X0 hx hZ (own_w hw 0 rfl) e0 (g := (mkF m 7 #[.val (.int p0), .val (.int p1), .val (.int p2), .val (.int p3), .val (.int (0 : Int32)), .unset, .unset, .unset] [(.int (0 : Int32))])) rfl (hb hby at_7) rfl (by decide) (cap := 0) (by decide) (by decide) (by decide) (by decide)
    obtain ⟨b4, g4⟩ : ∃ z, z = h0.size := ⟨_, rfl⟩
    rw [← g4] at A4 st4
    have O4 := O0.ext E4
    have g_b4 : n0 ≤ b4 := Nat.le_trans (Nat.le_of_eq O0.1.symm) (Nat.le_trans O0.2.1 (Nat.le_of_eq g4.symm))
    have s_b4 : h0.size ≤ b4 := Nat.le_trans K0.1 (Nat.le_of_eq g4.symm)
    have K4 := K0.ext E4
    have V4 : Arv Z h4 b4 c4 .byte (0 : Int32) [] (.int (0 : Int32)) := (Arv.new A4 (by decide)).pad (pad_rep [] (.int (0 : Int32)) 0)
    have lt_b4 := V4.lt
    obtain ⟨_, _, ⟨T5, L5, k5, n5⟩, -, X5, hS5, hg5, ⟨Lc5, hQ5, l5, y5, z5⟩, st5⟩ := callSS X4 hx (y := own_m3) hown (mvT hZ (own_w hw 1 rfl)) (mvT hZ (own_w hw 2 rfl)) (mvT hZ (own_w hw 3 rfl)) (mvT hZ (own_w hw 4 rfl)) (by decide) (backOfS (W := 0) (rm_dn l Z a0 hw [] b4 _ h4 n0 O4 hE  ) hZ (own_w hw 4 rfl) (own_w hw 3 rfl) (by decide) (by decide)) (g := (mkF m 48 #[.val (.int p0), .val (.int p1), .val (.int p2), .val (.int p3), .val (.int (0 : Int32)), .val (.ref b4), .unset, .unset] [(.ref b4)])) rfl (by rw [hml]; rfl) (argsL := [(.ref b4)]) (rest := []) (lenOf pd___B_Lcom_example_attenuation_attenuation_core_Outcome_ rfl) rfl (by show 2 * 0 + _ ≤ _; exact Nat.le_of_eq rfl) (hb hby at_48) (fun _ _ => ⟨rfl, e4, (by decide : 1 + 5 ≤ _), (by decide : 0 + 50 ≤ _)⟩)
    dsimp only [Pt.U, Pt.locs, Pt.cells, Pt.slots] at X5 l5 y5 z5 st5 hQ5 hS5 hg5
    subst l5 y5 z5
    obtain ⟨X5, hS, hZ, hown⟩ := rebS hS (by rw [e4]; exact (Nat.le_trans (Nat.zero_le _) E4.1)) X5 hS5 hg5 hZ hown
    obtain ⟨b5, rfl, N5q, O5, Kc5, g_b5, gs_b5, F5_0, F5_1, F5_2⟩ := hQ5
    have N5 := Fr.app N0 N5q
    have K5 := K4.trans Kc5 (fun x hx => nomatch hx)
    have s_b5 := Nat.le_trans K4.1 gs_b5
    have lt_b5 := F5_0.lt
    obtain ⟨cq6, kq6, q6a, q6b, q6c⟩ := isOf hZ rfl F5_0
    obtain ⟨_, _, ⟨T6, L6, k6, n6⟩, -, X6, ⟨Lc6, hQ6, l6, y6, z6⟩, st6⟩ := X5.virtualBack hx (y := own_m4) (z := own_m4) hown (mvT hZ (own_w hw 37 rfl)) (mvT hZ (own_w hw 38 rfl)) (notFace_of_selects (args := #[]) (mvT hZ (own_w hw 40 rfl))) (mvT hZ (own_w hw 40 rfl)) (mvT hZ (own_w hw 39 rfl)) (by decide) (backOf (W := 0) (rm_gs l Z a0 hw [] b5 a_DONE _ T5.heap n0 O5 hE F5_1 ) hZ (own_w hw 41 rfl) (own_w hw 3 rfl) (by decide) (by decide)) q6a q6c (g := (mkF m 62 #[.val (.int p0), .val (.int p1), .val (.int p2), .val (.int p3), .val (.int (0 : Int32)), .val (.ref b4), .val (.ref b5), .unset] [(.ref b5)])) rfl (by rw [hml]; rfl) (Steps.refl _) (argsL := []) (rest := []) (lenOf pd___Lcom_example_attenuation_attenuation_core_Outcome_Status_ rfl) rfl (by show 2 * 0 + _ ≤ _; exact Nat.le_of_eq rfl) (hb hby at_62) (fun _ _ => ⟨rfl, rfl, (by decide : 6 + 0 ≤ _), (by decide : 50 + 0 ≤ _)⟩)
    dsimp only [Pt.U, Pt.locs, Pt.cells, Pt.slots] at X6 l6 y6 z6 st6 hQ6
    subst l6 y6 z6
    obtain ⟨rfl, N6q, hp6⟩ := hQ6
    have N6 := Fr.app N5 N6q
    obtain ⟨T7, X7, e7, st7⟩ := getS2 X6 hx hZ hown (host := "") (Or.inl (own_w hw 42 rfl)) Via.refl hp6 (S_DONE.ext O5.2) (g := (mkF m 65 #[.val (.int p0), .val (.int p1), .val (.int p2), .val (.int p3), .val (.int (0 : Int32)), .val (.ref b4), .val (.ref b5), .unset] [(.ref a_DONE)])) rfl (hb hby at_65)
    obtain ⟨cq8, kq8, q8a, q8b, q8c⟩ := isOf hZ e7 F5_0
    obtain ⟨_, _, ⟨T8, L8, k8, n8⟩, -, X8, ⟨Lc8, hQ8, l8, y8, z8⟩, st8⟩ := X7.virtualBack hx (y := own_m5) (z := own_m5) hown (mvT hZ (own_w hw 43 rfl)) (mvT hZ (own_w hw 44 rfl)) (notFace_of_selects (args := #[]) (mvT hZ (own_w hw 46 rfl))) (mvT hZ (own_w hw 46 rfl)) (mvT hZ (own_w hw 45 rfl)) (by decide) (backOf (W := 0) (rm_gb l Z a0 hw [] b5 b4 _ T5.heap n0 O5 hE F5_2 ) hZ (own_w hw 47 rfl) (own_w hw 3 rfl) (by decide) (by decide)) q8a q8c (g := (mkF m 75 #[.val (.int p0), .val (.int p1), .val (.int p2), .val (.int p3), .val (.int (0 : Int32)), .val (.ref b4), .val (.ref b5), .unset] [(.ref b5)])) rfl (by rw [hml]; rfl) (Steps.refl _) (argsL := []) (rest := []) (lenOf pd____B rfl) rfl (by show 2 * 0 + _ ≤ _; exact Nat.le_of_eq rfl) (hb hby at_75) (fun _ _ => ⟨rfl, e7, (by decide : 6 + 0 ≤ _), (by decide : 50 + 0 ≤ _)⟩)
    dsimp only [Pt.U, Pt.locs, Pt.cells, Pt.slots] at X8 l8 y8 z8 st8 hQ8
    subst l8 y8 z8
    obtain ⟨rfl, N8q, hp8⟩ := hQ8
    have N8 := Fr.app N6 N8q
    have f9 := (V4.keep Kc5 List.not_mem_nil)
    obtain ⟨cl10, Ar10, q10, Sz10, Nn10, Hs10, Gf10⟩ := id f9
    have k11 : ∀ t, own_At p e below m T8 150 #[.val (.int p0), .val (.int p1), .val (.int p2), .val (.int p3), .val (.int (0 : Int32)), .val (.ref b4), .val (.ref b5), .val (.ref b4)] [(.int (1 : Int32))] t → own_En p e below m s₁ #[(.int p0), (.int p1), (.int p2), (.int p3)] maxLocals t := by
      intro t k
      refine k3 t ?_
      refine XS.istore X0.here hx rfl (hb hby at_3) rfl (l' := #[.val (.int p0), .val (.int p1), .val (.int p2), .val (.int p3), .val (.int (0 : Int32)), .unset, .unset, .unset]) rfl ?_
      show own_At p e below m s₁ 5 #[.val (.int p0), .val (.int p1), .val (.int p2), .val (.int p3), .val (.int (0 : Int32)), .unset, .unset, .unset] [] t
      refine XS.iload X0.here hx rfl (hb hby at_5) rfl ?_
      show own_At p e below m s₁ 7 #[.val (.int p0), .val (.int p1), .val (.int p2), .val (.int p3), .val (.int (0 : Int32)), .unset, .unset, .unset] [(.int (0 : Int32))] t
      refine st4 _ ?_
      show own_At p e below m T4 9 #[.val (.int p0), .val (.int p1), .val (.int p2), .val (.int p3), .val (.int (0 : Int32)), .unset, .unset, .unset] [(.ref b4)] t
      refine XS.astore X4.here hx rfl (hb hby at_9) rfl rfl (l' := #[.val (.int p0), .val (.int p1), .val (.int p2), .val (.int p3), .val (.int (0 : Int32)), .val (.ref b4), .unset, .unset]) rfl ?_
      show own_At p e below m T4 11 #[.val (.int p0), .val (.int p1), .val (.int p2), .val (.int p3), .val (.int (0 : Int32)), .val (.ref b4), .unset, .unset] [] t
      refine XS.iload X4.here hx rfl (hb hby at_11) rfl ?_
      show own_At p e below m T4 13 #[.val (.int p0), .val (.int p1), .val (.int p2), .val (.int p3), .val (.int (0 : Int32)), .val (.ref b4), .unset, .unset] [(.int (0 : Int32))] t
      refine XS.ifYes X4.here hx rfl (pc0 := 13) (pc' := 22) rfl (hb hby at_13) rfl ((if0 _ _).trans (flt (by decide : ¬ ((0 : Int32) < (0 : Int32)))).2.2.2) (by decide) (by decide) ?_
      show own_At p e below m T4 22 #[.val (.int p0), .val (.int p1), .val (.int p2), .val (.int p3), .val (.int (0 : Int32)), .val (.ref b4), .unset, .unset] [] t
      refine XS.iload X4.here hx rfl (hb hby at_22) rfl ?_
      show own_At p e below m T4 24 #[.val (.int p0), .val (.int p1), .val (.int p2), .val (.int p3), .val (.int (0 : Int32)), .val (.ref b4), .unset, .unset] [(.int (0 : Int32))] t
      refine XS.iconst X4.here hx rfl (hb hby at_24) ?_
      show own_At p e below m T4 25 #[.val (.int p0), .val (.int p1), .val (.int p2), .val (.int p3), .val (.int (0 : Int32)), .val (.ref b4), .unset, .unset] [(.int (1 : Int32)), (.int (0 : Int32))] t
      refine XS.icmpYes X4.here hx rfl (pc0 := 25) (pc' := 34) rfl (hb hby at_25) rfl (flt (by decide : ¬ ((1 : Int32) < (0 : Int32)))).2.2.2 (by decide) (by decide) ?_
      show own_At p e below m T4 34 #[.val (.int p0), .val (.int p1), .val (.int p2), .val (.int p3), .val (.int (0 : Int32)), .val (.ref b4), .unset, .unset] [] t
      refine XS.iload X4.here hx rfl (hb hby at_34) rfl ?_
      show own_At p e below m T4 36 #[.val (.int p0), .val (.int p1), .val (.int p2), .val (.int p3), .val (.int (0 : Int32)), .val (.ref b4), .unset, .unset] [(.int (0 : Int32))] t
      refine XS.iconst X4.here hx rfl (hb hby at_36) ?_
      show own_At p e below m T4 37 #[.val (.int p0), .val (.int p1), .val (.int p2), .val (.int p3), .val (.int (0 : Int32)), .val (.ref b4), .unset, .unset] [(.int (2 : Int32)), (.int (0 : Int32))] t
      refine XS.icmpYes X4.here hx rfl (pc0 := 37) (pc' := 46) rfl (hb hby at_37) rfl (flt (by decide : ¬ ((2 : Int32) < (0 : Int32)))).2.2.2 (by decide) (by decide) ?_
      show own_At p e below m T4 46 #[.val (.int p0), .val (.int p1), .val (.int p2), .val (.int p3), .val (.int (0 : Int32)), .val (.ref b4), .unset, .unset] [] t
      refine XS.aload X4.here hx rfl (hb hby at_46) rfl rfl ?_
      show own_At p e below m T4 48 #[.val (.int p0), .val (.int p1), .val (.int p2), .val (.int p3), .val (.int (0 : Int32)), .val (.ref b4), .unset, .unset] [(.ref b4)] t
      refine st5.trans ?_
      show own_At p e below m T5 51 #[.val (.int p0), .val (.int p1), .val (.int p2), .val (.int p3), .val (.int (0 : Int32)), .val (.ref b4), .unset, .unset] [(.ref b5)] t
      refine XS.astore X5.here hx rfl (hb hby at_51) rfl rfl (l' := #[.val (.int p0), .val (.int p1), .val (.int p2), .val (.int p3), .val (.int (0 : Int32)), .val (.ref b4), .val (.ref b5), .unset]) rfl ?_
      show own_At p e below m T5 53 #[.val (.int p0), .val (.int p1), .val (.int p2), .val (.int p3), .val (.int (0 : Int32)), .val (.ref b4), .val (.ref b5), .unset] [] t
      refine XS.aload X5.here hx rfl (hb hby at_53) rfl rfl ?_
      show own_At p e below m T5 55 #[.val (.int p0), .val (.int p1), .val (.int p2), .val (.int p3), .val (.int (0 : Int32)), .val (.ref b4), .val (.ref b5), .unset] [(.ref b5)] t
      refine XS.ifnonnullYes X5.here hx rfl (pc0 := 55) (pc' := 60) rfl (hb hby at_55) rfl (by decide) (by decide) ?_
      show own_At p e below m T5 60 #[.val (.int p0), .val (.int p1), .val (.int p2), .val (.int p3), .val (.int (0 : Int32)), .val (.ref b4), .val (.ref b5), .unset] [] t
      refine XS.aload X5.here hx rfl (hb hby at_60) rfl rfl ?_
      show own_At p e below m T5 62 #[.val (.int p0), .val (.int p1), .val (.int p2), .val (.int p3), .val (.int (0 : Int32)), .val (.ref b4), .val (.ref b5), .unset] [(.ref b5)] t
      refine st6.trans ?_
      show own_At p e below m T6 65 #[.val (.int p0), .val (.int p1), .val (.int p2), .val (.int p3), .val (.int (0 : Int32)), .val (.ref b4), .val (.ref b5), .unset] [(.ref a_DONE)] t
      refine st7 _ ?_
      show own_At p e below m T7 68 #[.val (.int p0), .val (.int p1), .val (.int p2), .val (.int p3), .val (.int (0 : Int32)), .val (.ref b4), .val (.ref b5), .unset] [(.ref a_DONE), (.ref a_DONE)] t
      refine Jvm.RoadKit.acmp (g := (mkF m 68 #[.val (.int p0), .val (.int p1), .val (.int p2), .val (.int p3), .val (.int (0 : Int32)), .val (.ref b4), .val (.ref b5), .unset] [(.ref a_DONE), (.ref a_DONE)])) X7 hx rfl rfl rfl (pc0 := 68) (pc' := 73) (same := true) rfl (hb hby at_68) rfl (decide_eq_true rfl) (by decide) (by decide) ?_
      show own_At p e below m T7 73 #[.val (.int p0), .val (.int p1), .val (.int p2), .val (.int p3), .val (.int (0 : Int32)), .val (.ref b4), .val (.ref b5), .unset] [] t
      refine XS.aload X7.here hx rfl (hb hby at_73) rfl rfl ?_
      show own_At p e below m T7 75 #[.val (.int p0), .val (.int p1), .val (.int p2), .val (.int p3), .val (.int (0 : Int32)), .val (.ref b4), .val (.ref b5), .unset] [(.ref b5)] t
      refine st8.trans ?_
      show own_At p e below m T8 78 #[.val (.int p0), .val (.int p1), .val (.int p2), .val (.int p3), .val (.int (0 : Int32)), .val (.ref b4), .val (.ref b5), .unset] [(.ref b4)] t
      refine XS.astore X8.here hx rfl (hb hby at_78) rfl rfl (l' := #[.val (.int p0), .val (.int p1), .val (.int p2), .val (.int p3), .val (.int (0 : Int32)), .val (.ref b4), .val (.ref b5), .val (.ref b4)]) rfl ?_
      show own_At p e below m T8 80 #[.val (.int p0), .val (.int p1), .val (.int p2), .val (.int p3), .val (.int (0 : Int32)), .val (.ref b4), .val (.ref b5), .val (.ref b4)] [] t
      refine XS.aload X8.here hx rfl (hb hby at_80) rfl rfl ?_
      show own_At p e below m T8 82 #[.val (.int p0), .val (.int p1), .val (.int p2), .val (.int p3), .val (.int (0 : Int32)), .val (.ref b4), .val (.ref b5), .val (.ref b4)] [(.ref b4)] t
      refine XS.aload X8.here hx rfl (hb hby at_82) rfl rfl ?_
      show own_At p e below m T8 84 #[.val (.int p0), .val (.int p1), .val (.int p2), .val (.int p3), .val (.int (0 : Int32)), .val (.ref b4), .val (.ref b5), .val (.ref b4)] [(.ref b4), (.ref b4)] t
      refine Jvm.RoadKit.acmp (g := (mkF m 84 #[.val (.int p0), .val (.int p1), .val (.int p2), .val (.int p3), .val (.int (0 : Int32)), .val (.ref b4), .val (.ref b5), .val (.ref b4)] [(.ref b4), (.ref b4)])) X8 hx rfl rfl rfl (pc0 := 84) (pc' := 89) (same := true) rfl (hb hby at_84) rfl (decide_eq_true rfl) (by decide) (by decide) ?_
      show own_At p e below m T8 89 #[.val (.int p0), .val (.int p1), .val (.int p2), .val (.int p3), .val (.int (0 : Int32)), .val (.ref b4), .val (.ref b5), .val (.ref b4)] [] t
      refine XS.aload X8.here hx rfl (hb hby at_89) rfl rfl ?_
      show own_At p e below m T8 91 #[.val (.int p0), .val (.int p1), .val (.int p2), .val (.int p3), .val (.int (0 : Int32)), .val (.ref b4), .val (.ref b5), .val (.ref b4)] [(.ref b4)] t
      refine X8.arraylength hx (by rw [hp8]; exact Ar10.1) (State.isArrayOf_alike hZ.alike Ar10.2.1) (g := (mkF m 91 #[.val (.int p0), .val (.int p1), .val (.int p2), .val (.int p3), .val (.int (0 : Int32)), .val (.ref b4), .val (.ref b5), .val (.ref b4)] [(.ref b4)])) rfl rfl (hb hby at_91) _ ?_
      rw [len_of Sz10 Nn10]
      show own_At p e below m T8 92 #[.val (.int p0), .val (.int p1), .val (.int p2), .val (.int p3), .val (.int (0 : Int32)), .val (.ref b4), .val (.ref b5), .val (.ref b4)] [(.int (0 : Int32))] t
      refine XS.iload X8.here hx rfl (hb hby at_92) rfl ?_
      show own_At p e below m T8 94 #[.val (.int p0), .val (.int p1), .val (.int p2), .val (.int p3), .val (.int (0 : Int32)), .val (.ref b4), .val (.ref b5), .val (.ref b4)] [(.int (0 : Int32)), (.int (0 : Int32))] t
      refine XS.icmpYes X8.here hx rfl (pc0 := 94) (pc' := 99) rfl (hb hby at_94) rfl (teq (by decide : (0 : Int32) = (0 : Int32))).1 (by decide) (by decide) ?_
      show own_At p e below m T8 99 #[.val (.int p0), .val (.int p1), .val (.int p2), .val (.int p3), .val (.int (0 : Int32)), .val (.ref b4), .val (.ref b5), .val (.ref b4)] [] t
      refine XS.iload X8.here hx rfl (hb hby at_99) rfl ?_
      show own_At p e below m T8 101 #[.val (.int p0), .val (.int p1), .val (.int p2), .val (.int p3), .val (.int (0 : Int32)), .val (.ref b4), .val (.ref b5), .val (.ref b4)] [(.int (0 : Int32))] t
      refine XS.ifYes X8.here hx rfl (pc0 := 101) (pc' := 115) rfl (hb hby at_101) rfl ((if0 _ _).trans (flt (by decide : ¬ ((0 : Int32) < (0 : Int32)))).2.2.2) (by decide) (by decide) ?_
      show own_At p e below m T8 115 #[.val (.int p0), .val (.int p1), .val (.int p2), .val (.int p3), .val (.int (0 : Int32)), .val (.ref b4), .val (.ref b5), .val (.ref b4)] [] t
      refine XS.iload X8.here hx rfl (hb hby at_115) rfl ?_
      show own_At p e below m T8 117 #[.val (.int p0), .val (.int p1), .val (.int p2), .val (.int p3), .val (.int (0 : Int32)), .val (.ref b4), .val (.ref b5), .val (.ref b4)] [(.int (0 : Int32))] t
      refine XS.iconst X8.here hx rfl (hb hby at_117) ?_
      show own_At p e below m T8 118 #[.val (.int p0), .val (.int p1), .val (.int p2), .val (.int p3), .val (.int (0 : Int32)), .val (.ref b4), .val (.ref b5), .val (.ref b4)] [(.int (1 : Int32)), (.int (0 : Int32))] t
      refine XS.icmpYes X8.here hx rfl (pc0 := 118) (pc' := 132) rfl (hb hby at_118) rfl (flt (by decide : ¬ ((1 : Int32) < (0 : Int32)))).2.2.2 (by decide) (by decide) ?_
      show own_At p e below m T8 132 #[.val (.int p0), .val (.int p1), .val (.int p2), .val (.int p3), .val (.int (0 : Int32)), .val (.ref b4), .val (.ref b5), .val (.ref b4)] [] t
      refine XS.iload X8.here hx rfl (hb hby at_132) rfl ?_
      show own_At p e below m T8 134 #[.val (.int p0), .val (.int p1), .val (.int p2), .val (.int p3), .val (.int (0 : Int32)), .val (.ref b4), .val (.ref b5), .val (.ref b4)] [(.int (0 : Int32))] t
      refine XS.iconst X8.here hx rfl (hb hby at_134) ?_
      show own_At p e below m T8 135 #[.val (.int p0), .val (.int p1), .val (.int p2), .val (.int p3), .val (.int (0 : Int32)), .val (.ref b4), .val (.ref b5), .val (.ref b4)] [(.int (2 : Int32)), (.int (0 : Int32))] t
      refine XS.icmpYes X8.here hx rfl (pc0 := 135) (pc' := 149) rfl (hb hby at_135) rfl (flt (by decide : ¬ ((2 : Int32) < (0 : Int32)))).2.2.2 (by decide) (by decide) ?_
      show own_At p e below m T8 149 #[.val (.int p0), .val (.int p1), .val (.int p2), .val (.int p3), .val (.int (0 : Int32)), .val (.ref b4), .val (.ref b5), .val (.ref b4)] [] t
      refine XS.iconst X8.here hx rfl (hb hby at_149) ?_
      show own_At p e below m T8 150 #[.val (.int p0), .val (.int p1), .val (.int p2), .val (.int p3), .val (.int (0 : Int32)), .val (.ref b4), .val (.ref b5), .val (.ref b4)] [(.int (1 : Int32))] t
      exact k
    obtain ⟨fs, hr, hrun, hended, hRW⟩ := X8.leaveW hS (by rw [hp8]; exact (Nat.le_refl _)) (v := some (.int (1 : Int32))) (fun h => by rw [Bd.returns] at h; cases h)
    refine hNG ⟨_, _, k11 _ ?_, hrun, hended, _, _, rfl, ?_, hRW.1, hRW.2.1, hRW.2.2.1, hRW.2.2.2.mono (by decide) (by decide)⟩
    · exact retN X8 hx (t := .boolean) Bd.returns (by simp) (hb hby at_150) hr
    · show Q_law Z p0 p1 p2 p3 a_DONE h0 n0 _ T8.heap _
      rw [hp8]
      exact ⟨rfl, N8⟩
  · have k12 : ∀ t, own_At p e below m s₁ 3 #[.val (.int p0), .val (.int p1), .val (.int p2), .val (.int p3), .unset, .unset, .unset, .unset] [(.int (1 : Int32))] t → own_En p e below m s₁ #[(.int p0), (.int p1), (.int p2), (.int p3)] maxLocals t := by
      intro t k
      refine k1 t ?_
      rw [hs2]
      exact k
    obtain ⟨T13, h13, c13, X13, e13, E13, A13, st13⟩ := newP X0 hx hZ (own_w hw 0 rfl) e0 (g := (mkF m 7 #[.val (.int p0), .val (.int p1), .val (.int p2), .val (.int p3), .val (.int (1 : Int32)), .unset, .unset, .unset] [(.int (1 : Int32))])) rfl (hb hby at_7) rfl (by decide) (cap := 1) (by decide) (by decide) (by decide) (by decide)
    obtain ⟨b13, g13⟩ : ∃ z, z = h0.size := ⟨_, rfl⟩
    rw [← g13] at A13 st13
    have O13 := O0.ext E13
    have g_b13 : n0 ≤ b13 := Nat.le_trans (Nat.le_of_eq O0.1.symm) (Nat.le_trans O0.2.1 (Nat.le_of_eq g13.symm))
    have s_b13 : h0.size ≤ b13 := Nat.le_trans K0.1 (Nat.le_of_eq g13.symm)
    have K13 := K0.ext E13
    have V13 : Arv Z h13 b13 c13 .byte (1 : Int32) [(.int (0 : Int32))] (.int (0 : Int32)) := (Arv.new A13 (by decide)).pad (pad_rep [] (.int (0 : Int32)) 1)
    have lt_b13 := V13.lt
    obtain ⟨cl14, Ar14, q14, Sz14, Nn14, Hs14, Gf14⟩ := id V13
    have hin15 : ¬ ((0 : Int32) < 0 ∨ cl14.slots.size ≤ ((0 : Int32)).toNatClampNeg) := inb_of Sz14 ⟨by decide, by decide⟩
    obtain ⟨T16, h16, X16, e16, W16, st16⟩ := stB X13 hx hZ e13 Ar14 (j := (0 : Int32)) hin15 (g := (mkF m 21 #[.val (.int p0), .val (.int p1), .val (.int p2), .val (.int p3), .val (.int (1 : Int32)), .val (.ref b13), .unset, .unset] [(.int (p1.toInt8.toInt32)), (.int (0 : Int32)), (.ref b13)])) rfl rfl (hb hby at_21)
    have V16 : Arv Z h16 b13 c13 .byte (1 : Int32) [(.int (p1.toInt8.toInt32))] (.int (0 : Int32)) := by
      have q := Arv.set Ar14 q14 Sz14 Nn14 Hs14 Gf14 (fits_nar_byte _) W16 0 rfl (Nat.le_of_ble_eq_true rfl)
      first | exact q | (simp only [own_b2, own_narb2] at q; exact q)
    have N16 := Fr.snoc X16 N0 g_b13
    have O16 := O13.wr W16 g_b13
    have K16 := K13.wr W16 (Or.inr s_b13)
    obtain ⟨_, _, ⟨T17, L17, k17, n17⟩, -, X17, hS17, hg17, ⟨Lc17, hQ17, l17, y17, z17⟩, st17⟩ := callSS X16 hx (y := own_m3) hown (mvT hZ (own_w hw 1 rfl)) (mvT hZ (own_w hw 2 rfl)) (mvT hZ (own_w hw 3 rfl)) (mvT hZ (own_w hw 4 rfl)) (by decide) (backOfS (W := 0) (rm_dn l Z a0 hw [] b13 _ h16 n0 O16 hE  ) hZ (own_w hw 4 rfl) (own_w hw 3 rfl) (by decide) (by decide)) (g := (mkF m 48 #[.val (.int p0), .val (.int p1), .val (.int p2), .val (.int p3), .val (.int (1 : Int32)), .val (.ref b13), .unset, .unset] [(.ref b13)])) rfl (by rw [hml]; rfl) (argsL := [(.ref b13)]) (rest := []) (lenOf pd___B_Lcom_example_attenuation_attenuation_core_Outcome_ rfl) rfl (by show 2 * 0 + _ ≤ _; exact Nat.le_of_eq rfl) (hb hby at_48) (fun _ _ => ⟨rfl, e16, (by decide : 1 + 5 ≤ _), (by decide : 1 + 50 ≤ _)⟩)
    dsimp only [Pt.U, Pt.locs, Pt.cells, Pt.slots] at X17 l17 y17 z17 st17 hQ17 hS17 hg17
    subst l17 y17 z17
    obtain ⟨X17, hS, hZ, hown⟩ := rebS hS (by rw [e16]; exact (Nat.le_trans (Nat.le_trans (Nat.zero_le _) E13.1) (Keep.of_wr W16).1)) X17 hS17 hg17 hZ hown
    obtain ⟨b17, rfl, N17q, O17, Kc17, g_b17, gs_b17, F17_0, F17_1, F17_2⟩ := hQ17
    have N17 := Fr.app N16 N17q
    have K17 := K16.trans Kc17 (fun x hx => nomatch hx)
    have s_b17 := Nat.le_trans K16.1 gs_b17
    have lt_b17 := F17_0.lt
    obtain ⟨cq18, kq18, q18a, q18b, q18c⟩ := isOf hZ rfl F17_0
    obtain ⟨_, _, ⟨T18, L18, k18, n18⟩, -, X18, ⟨Lc18, hQ18, l18, y18, z18⟩, st18⟩ := X17.virtualBack hx (y := own_m4) (z := own_m4) hown (mvT hZ (own_w hw 37 rfl)) (mvT hZ (own_w hw 38 rfl)) (notFace_of_selects (args := #[]) (mvT hZ (own_w hw 40 rfl))) (mvT hZ (own_w hw 40 rfl)) (mvT hZ (own_w hw 39 rfl)) (by decide) (backOf (W := 0) (rm_gs l Z a0 hw [] b17 a_DONE _ T17.heap n0 O17 hE F17_1 ) hZ (own_w hw 41 rfl) (own_w hw 3 rfl) (by decide) (by decide)) q18a q18c (g := (mkF m 62 #[.val (.int p0), .val (.int p1), .val (.int p2), .val (.int p3), .val (.int (1 : Int32)), .val (.ref b13), .val (.ref b17), .unset] [(.ref b17)])) rfl (by rw [hml]; rfl) (Steps.refl _) (argsL := []) (rest := []) (lenOf pd___Lcom_example_attenuation_attenuation_core_Outcome_Status_ rfl) rfl (by show 2 * 0 + _ ≤ _; exact Nat.le_of_eq rfl) (hb hby at_62) (fun _ _ => ⟨rfl, rfl, (by decide : 6 + 0 ≤ _), (by decide : 51 + 0 ≤ _)⟩)
    dsimp only [Pt.U, Pt.locs, Pt.cells, Pt.slots] at X18 l18 y18 z18 st18 hQ18
    subst l18 y18 z18
    obtain ⟨rfl, N18q, hp18⟩ := hQ18
    have N18 := Fr.app N17 N18q
    obtain ⟨T19, X19, e19, st19⟩ := getS2 X18 hx hZ hown (host := "") (Or.inl (own_w hw 42 rfl)) Via.refl hp18 (S_DONE.ext O17.2) (g := (mkF m 65 #[.val (.int p0), .val (.int p1), .val (.int p2), .val (.int p3), .val (.int (1 : Int32)), .val (.ref b13), .val (.ref b17), .unset] [(.ref a_DONE)])) rfl (hb hby at_65)
    obtain ⟨cq20, kq20, q20a, q20b, q20c⟩ := isOf hZ e19 F17_0
    obtain ⟨_, _, ⟨T20, L20, k20, n20⟩, -, X20, ⟨Lc20, hQ20, l20, y20, z20⟩, st20⟩ := X19.virtualBack hx (y := own_m5) (z := own_m5) hown (mvT hZ (own_w hw 43 rfl)) (mvT hZ (own_w hw 44 rfl)) (notFace_of_selects (args := #[]) (mvT hZ (own_w hw 46 rfl))) (mvT hZ (own_w hw 46 rfl)) (mvT hZ (own_w hw 45 rfl)) (by decide) (backOf (W := 0) (rm_gb l Z a0 hw [] b17 b13 _ T17.heap n0 O17 hE F17_2 ) hZ (own_w hw 47 rfl) (own_w hw 3 rfl) (by decide) (by decide)) q20a q20c (g := (mkF m 75 #[.val (.int p0), .val (.int p1), .val (.int p2), .val (.int p3), .val (.int (1 : Int32)), .val (.ref b13), .val (.ref b17), .unset] [(.ref b17)])) rfl (by rw [hml]; rfl) (Steps.refl _) (argsL := []) (rest := []) (lenOf pd____B rfl) rfl (by show 2 * 0 + _ ≤ _; exact Nat.le_of_eq rfl) (hb hby at_75) (fun _ _ => ⟨rfl, e19, (by decide : 6 + 0 ≤ _), (by decide : 51 + 0 ≤ _)⟩)
    dsimp only [Pt.U, Pt.locs, Pt.cells, Pt.slots] at X20 l20 y20 z20 st20 hQ20
    subst l20 y20 z20
    obtain ⟨rfl, N20q, hp20⟩ := hQ20
    have N20 := Fr.app N18 N20q
    have f21 := (V16.keep Kc17 List.not_mem_nil)
    obtain ⟨cl22, Ar22, q22, Sz22, Nn22, Hs22, Gf22⟩ := id f21
    obtain ⟨cl23, Ar23, q23, Sz23, Nn23, Hs23, Gf23⟩ := id f21
    have hin24 : ¬ ((0 : Int32) < 0 ∨ cl23.slots.size ≤ ((0 : Int32)).toNatClampNeg) := inb_of Sz23 ⟨by decide, by decide⟩
    have hat25 : cl23.slots[((0 : Int32)).toNatClampNeg]? = some (.int (p1.toInt8.toInt32)) := Hs23.at hin24 rfl
    have k26 : ∀ t, own_At p e below m T20 150 #[.val (.int p0), .val (.int p1), .val (.int p2), .val (.int p3), .val (.int (1 : Int32)), .val (.ref b13), .val (.ref b17), .val (.ref b13)] [(.int (1 : Int32))] t → own_En p e below m s₁ #[(.int p0), (.int p1), (.int p2), (.int p3)] maxLocals t := by
      intro t k
      refine k12 t ?_
      refine XS.istore X0.here hx rfl (hb hby at_3) rfl (l' := #[.val (.int p0), .val (.int p1), .val (.int p2), .val (.int p3), .val (.int (1 : Int32)), .unset, .unset, .unset]) rfl ?_
      show own_At p e below m s₁ 5 #[.val (.int p0), .val (.int p1), .val (.int p2), .val (.int p3), .val (.int (1 : Int32)), .unset, .unset, .unset] [] t
      refine XS.iload X0.here hx rfl (hb hby at_5) rfl ?_
      show own_At p e below m s₁ 7 #[.val (.int p0), .val (.int p1), .val (.int p2), .val (.int p3), .val (.int (1 : Int32)), .unset, .unset, .unset] [(.int (1 : Int32))] t
      refine st13 _ ?_
      show own_At p e below m T13 9 #[.val (.int p0), .val (.int p1), .val (.int p2), .val (.int p3), .val (.int (1 : Int32)), .unset, .unset, .unset] [(.ref b13)] t
      refine XS.astore X13.here hx rfl (hb hby at_9) rfl rfl (l' := #[.val (.int p0), .val (.int p1), .val (.int p2), .val (.int p3), .val (.int (1 : Int32)), .val (.ref b13), .unset, .unset]) rfl ?_
      show own_At p e below m T13 11 #[.val (.int p0), .val (.int p1), .val (.int p2), .val (.int p3), .val (.int (1 : Int32)), .val (.ref b13), .unset, .unset] [] t
      refine XS.iload X13.here hx rfl (hb hby at_11) rfl ?_
      show own_At p e below m T13 13 #[.val (.int p0), .val (.int p1), .val (.int p2), .val (.int p3), .val (.int (1 : Int32)), .val (.ref b13), .unset, .unset] [(.int (1 : Int32))] t
      refine XS.ifNo X13.here hx rfl (hb hby at_13) rfl ((if0 _ _).trans (tlt (by decide : (0 : Int32) < (1 : Int32))).2.2.2) ?_
      show own_At p e below m T13 16 #[.val (.int p0), .val (.int p1), .val (.int p2), .val (.int p3), .val (.int (1 : Int32)), .val (.ref b13), .unset, .unset] [] t
      refine XS.aload X13.here hx rfl (hb hby at_16) rfl rfl ?_
      show own_At p e below m T13 18 #[.val (.int p0), .val (.int p1), .val (.int p2), .val (.int p3), .val (.int (1 : Int32)), .val (.ref b13), .unset, .unset] [(.ref b13)] t
      refine XS.iconst X13.here hx rfl (hb hby at_18) ?_
      show own_At p e below m T13 19 #[.val (.int p0), .val (.int p1), .val (.int p2), .val (.int p3), .val (.int (1 : Int32)), .val (.ref b13), .unset, .unset] [(.int (0 : Int32)), (.ref b13)] t
      refine XS.iloadN X13.here hx rfl (hb hby at_19) rfl ?_
      show own_At p e below m T13 20 #[.val (.int p0), .val (.int p1), .val (.int p2), .val (.int p3), .val (.int (1 : Int32)), .val (.ref b13), .unset, .unset] [(.int p1), (.int (0 : Int32)), (.ref b13)] t
      refine XS.i2b X13.here hx rfl (hb hby at_20) rfl ?_
      show own_At p e below m T13 21 #[.val (.int p0), .val (.int p1), .val (.int p2), .val (.int p3), .val (.int (1 : Int32)), .val (.ref b13), .unset, .unset] [(.int (p1.toInt8.toInt32)), (.int (0 : Int32)), (.ref b13)] t
      refine st16 _ ?_
      show own_At p e below m T16 22 #[.val (.int p0), .val (.int p1), .val (.int p2), .val (.int p3), .val (.int (1 : Int32)), .val (.ref b13), .unset, .unset] [] t
      refine XS.iload X16.here hx rfl (hb hby at_22) rfl ?_
      show own_At p e below m T16 24 #[.val (.int p0), .val (.int p1), .val (.int p2), .val (.int p3), .val (.int (1 : Int32)), .val (.ref b13), .unset, .unset] [(.int (1 : Int32))] t
      refine XS.iconst X16.here hx rfl (hb hby at_24) ?_
      show own_At p e below m T16 25 #[.val (.int p0), .val (.int p1), .val (.int p2), .val (.int p3), .val (.int (1 : Int32)), .val (.ref b13), .unset, .unset] [(.int (1 : Int32)), (.int (1 : Int32))] t
      refine XS.icmpYes X16.here hx rfl (pc0 := 25) (pc' := 34) rfl (hb hby at_25) rfl (flt (by decide : ¬ ((1 : Int32) < (1 : Int32)))).2.2.2 (by decide) (by decide) ?_
      show own_At p e below m T16 34 #[.val (.int p0), .val (.int p1), .val (.int p2), .val (.int p3), .val (.int (1 : Int32)), .val (.ref b13), .unset, .unset] [] t
      refine XS.iload X16.here hx rfl (hb hby at_34) rfl ?_
      show own_At p e below m T16 36 #[.val (.int p0), .val (.int p1), .val (.int p2), .val (.int p3), .val (.int (1 : Int32)), .val (.ref b13), .unset, .unset] [(.int (1 : Int32))] t
      refine XS.iconst X16.here hx rfl (hb hby at_36) ?_
      show own_At p e below m T16 37 #[.val (.int p0), .val (.int p1), .val (.int p2), .val (.int p3), .val (.int (1 : Int32)), .val (.ref b13), .unset, .unset] [(.int (2 : Int32)), (.int (1 : Int32))] t
      refine XS.icmpYes X16.here hx rfl (pc0 := 37) (pc' := 46) rfl (hb hby at_37) rfl (flt (by decide : ¬ ((2 : Int32) < (1 : Int32)))).2.2.2 (by decide) (by decide) ?_
      show own_At p e below m T16 46 #[.val (.int p0), .val (.int p1), .val (.int p2), .val (.int p3), .val (.int (1 : Int32)), .val (.ref b13), .unset, .unset] [] t
      refine XS.aload X16.here hx rfl (hb hby at_46) rfl rfl ?_
      show own_At p e below m T16 48 #[.val (.int p0), .val (.int p1), .val (.int p2), .val (.int p3), .val (.int (1 : Int32)), .val (.ref b13), .unset, .unset] [(.ref b13)] t
      refine st17.trans ?_
      show own_At p e below m T17 51 #[.val (.int p0), .val (.int p1), .val (.int p2), .val (.int p3), .val (.int (1 : Int32)), .val (.ref b13), .unset, .unset] [(.ref b17)] t
      refine XS.astore X17.here hx rfl (hb hby at_51) rfl rfl (l' := #[.val (.int p0), .val (.int p1), .val (.int p2), .val (.int p3), .val (.int (1 : Int32)), .val (.ref b13), .val (.ref b17), .unset]) rfl ?_
      show own_At p e below m T17 53 #[.val (.int p0), .val (.int p1), .val (.int p2), .val (.int p3), .val (.int (1 : Int32)), .val (.ref b13), .val (.ref b17), .unset] [] t
      refine XS.aload X17.here hx rfl (hb hby at_53) rfl rfl ?_
      show own_At p e below m T17 55 #[.val (.int p0), .val (.int p1), .val (.int p2), .val (.int p3), .val (.int (1 : Int32)), .val (.ref b13), .val (.ref b17), .unset] [(.ref b17)] t
      refine XS.ifnonnullYes X17.here hx rfl (pc0 := 55) (pc' := 60) rfl (hb hby at_55) rfl (by decide) (by decide) ?_
      show own_At p e below m T17 60 #[.val (.int p0), .val (.int p1), .val (.int p2), .val (.int p3), .val (.int (1 : Int32)), .val (.ref b13), .val (.ref b17), .unset] [] t
      refine XS.aload X17.here hx rfl (hb hby at_60) rfl rfl ?_
      show own_At p e below m T17 62 #[.val (.int p0), .val (.int p1), .val (.int p2), .val (.int p3), .val (.int (1 : Int32)), .val (.ref b13), .val (.ref b17), .unset] [(.ref b17)] t
      refine st18.trans ?_
      show own_At p e below m T18 65 #[.val (.int p0), .val (.int p1), .val (.int p2), .val (.int p3), .val (.int (1 : Int32)), .val (.ref b13), .val (.ref b17), .unset] [(.ref a_DONE)] t
      refine st19 _ ?_
      show own_At p e below m T19 68 #[.val (.int p0), .val (.int p1), .val (.int p2), .val (.int p3), .val (.int (1 : Int32)), .val (.ref b13), .val (.ref b17), .unset] [(.ref a_DONE), (.ref a_DONE)] t
      refine Jvm.RoadKit.acmp (g := (mkF m 68 #[.val (.int p0), .val (.int p1), .val (.int p2), .val (.int p3), .val (.int (1 : Int32)), .val (.ref b13), .val (.ref b17), .unset] [(.ref a_DONE), (.ref a_DONE)])) X19 hx rfl rfl rfl (pc0 := 68) (pc' := 73) (same := true) rfl (hb hby at_68) rfl (decide_eq_true rfl) (by decide) (by decide) ?_
      show own_At p e below m T19 73 #[.val (.int p0), .val (.int p1), .val (.int p2), .val (.int p3), .val (.int (1 : Int32)), .val (.ref b13), .val (.ref b17), .unset] [] t
      refine XS.aload X19.here hx rfl (hb hby at_73) rfl rfl ?_
      show own_At p e below m T19 75 #[.val (.int p0), .val (.int p1), .val (.int p2), .val (.int p3), .val (.int (1 : Int32)), .val (.ref b13), .val (.ref b17), .unset] [(.ref b17)] t
      refine st20.trans ?_
      show own_At p e below m T20 78 #[.val (.int p0), .val (.int p1), .val (.int p2), .val (.int p3), .val (.int (1 : Int32)), .val (.ref b13), .val (.ref b17), .unset] [(.ref b13)] t
      refine XS.astore X20.here hx rfl (hb hby at_78) rfl rfl (l' := #[.val (.int p0), .val (.int p1), .val (.int p2), .val (.int p3), .val (.int (1 : Int32)), .val (.ref b13), .val (.ref b17), .val (.ref b13)]) rfl ?_
      show own_At p e below m T20 80 #[.val (.int p0), .val (.int p1), .val (.int p2), .val (.int p3), .val (.int (1 : Int32)), .val (.ref b13), .val (.ref b17), .val (.ref b13)] [] t
      refine XS.aload X20.here hx rfl (hb hby at_80) rfl rfl ?_
      show own_At p e below m T20 82 #[.val (.int p0), .val (.int p1), .val (.int p2), .val (.int p3), .val (.int (1 : Int32)), .val (.ref b13), .val (.ref b17), .val (.ref b13)] [(.ref b13)] t
      refine XS.aload X20.here hx rfl (hb hby at_82) rfl rfl ?_
      show own_At p e below m T20 84 #[.val (.int p0), .val (.int p1), .val (.int p2), .val (.int p3), .val (.int (1 : Int32)), .val (.ref b13), .val (.ref b17), .val (.ref b13)] [(.ref b13), (.ref b13)] t
      refine Jvm.RoadKit.acmp (g := (mkF m 84 #[.val (.int p0), .val (.int p1), .val (.int p2), .val (.int p3), .val (.int (1 : Int32)), .val (.ref b13), .val (.ref b17), .val (.ref b13)] [(.ref b13), (.ref b13)])) X20 hx rfl rfl rfl (pc0 := 84) (pc' := 89) (same := true) rfl (hb hby at_84) rfl (decide_eq_true rfl) (by decide) (by decide) ?_
      show own_At p e below m T20 89 #[.val (.int p0), .val (.int p1), .val (.int p2), .val (.int p3), .val (.int (1 : Int32)), .val (.ref b13), .val (.ref b17), .val (.ref b13)] [] t
      refine XS.aload X20.here hx rfl (hb hby at_89) rfl rfl ?_
      show own_At p e below m T20 91 #[.val (.int p0), .val (.int p1), .val (.int p2), .val (.int p3), .val (.int (1 : Int32)), .val (.ref b13), .val (.ref b17), .val (.ref b13)] [(.ref b13)] t
      refine X20.arraylength hx (by rw [hp20]; exact Ar22.1) (State.isArrayOf_alike hZ.alike Ar22.2.1) (g := (mkF m 91 #[.val (.int p0), .val (.int p1), .val (.int p2), .val (.int p3), .val (.int (1 : Int32)), .val (.ref b13), .val (.ref b17), .val (.ref b13)] [(.ref b13)])) rfl rfl (hb hby at_91) _ ?_
      rw [len_of Sz22 Nn22]
      show own_At p e below m T20 92 #[.val (.int p0), .val (.int p1), .val (.int p2), .val (.int p3), .val (.int (1 : Int32)), .val (.ref b13), .val (.ref b17), .val (.ref b13)] [(.int (1 : Int32))] t
      refine XS.iload X20.here hx rfl (hb hby at_92) rfl ?_
      show own_At p e below m T20 94 #[.val (.int p0), .val (.int p1), .val (.int p2), .val (.int p3), .val (.int (1 : Int32)), .val (.ref b13), .val (.ref b17), .val (.ref b13)] [(.int (1 : Int32)), (.int (1 : Int32))] t
      refine XS.icmpYes X20.here hx rfl (pc0 := 94) (pc' := 99) rfl (hb hby at_94) rfl (teq (by decide : (1 : Int32) = (1 : Int32))).1 (by decide) (by decide) ?_
      show own_At p e below m T20 99 #[.val (.int p0), .val (.int p1), .val (.int p2), .val (.int p3), .val (.int (1 : Int32)), .val (.ref b13), .val (.ref b17), .val (.ref b13)] [] t
      refine XS.iload X20.here hx rfl (hb hby at_99) rfl ?_
      show own_At p e below m T20 101 #[.val (.int p0), .val (.int p1), .val (.int p2), .val (.int p3), .val (.int (1 : Int32)), .val (.ref b13), .val (.ref b17), .val (.ref b13)] [(.int (1 : Int32))] t
      refine XS.ifNo X20.here hx rfl (hb hby at_101) rfl ((if0 _ _).trans (tlt (by decide : (0 : Int32) < (1 : Int32))).2.2.2) ?_
      show own_At p e below m T20 104 #[.val (.int p0), .val (.int p1), .val (.int p2), .val (.int p3), .val (.int (1 : Int32)), .val (.ref b13), .val (.ref b17), .val (.ref b13)] [] t
      refine XS.aload X20.here hx rfl (hb hby at_104) rfl rfl ?_
      show own_At p e below m T20 106 #[.val (.int p0), .val (.int p1), .val (.int p2), .val (.int p3), .val (.int (1 : Int32)), .val (.ref b13), .val (.ref b17), .val (.ref b13)] [(.ref b13)] t
      refine XS.iconst X20.here hx rfl (hb hby at_106) ?_
      show own_At p e below m T20 107 #[.val (.int p0), .val (.int p1), .val (.int p2), .val (.int p3), .val (.int (1 : Int32)), .val (.ref b13), .val (.ref b17), .val (.ref b13)] [(.int (0 : Int32)), (.ref b13)] t
      refine X20.baloadBytes hx (j := (0 : Int32)) (v := (.int (p1.toInt8.toInt32))) (by rw [hp20]; exact Ar23.1) (State.isArrayOf_alike hZ.alike Ar23.2.1) Ar23.2.2 hin24 hat25 (g := (mkF m 107 #[.val (.int p0), .val (.int p1), .val (.int p2), .val (.int p3), .val (.int (1 : Int32)), .val (.ref b13), .val (.ref b17), .val (.ref b13)] [(.int (0 : Int32)), (.ref b13)])) rfl rfl (hb hby at_107) _ ?_
      show own_At p e below m T20 108 #[.val (.int p0), .val (.int p1), .val (.int p2), .val (.int p3), .val (.int (1 : Int32)), .val (.ref b13), .val (.ref b17), .val (.ref b13)] [(.int (p1.toInt8.toInt32))] t
      refine XS.iloadN X20.here hx rfl (hb hby at_108) rfl ?_
      show own_At p e below m T20 109 #[.val (.int p0), .val (.int p1), .val (.int p2), .val (.int p3), .val (.int (1 : Int32)), .val (.ref b13), .val (.ref b17), .val (.ref b13)] [(.int p1), (.int (p1.toInt8.toInt32))] t
      refine XS.i2b X20.here hx rfl (hb hby at_109) rfl ?_
      show own_At p e below m T20 110 #[.val (.int p0), .val (.int p1), .val (.int p2), .val (.int p3), .val (.int (1 : Int32)), .val (.ref b13), .val (.ref b17), .val (.ref b13)] [(.int (p1.toInt8.toInt32)), (.int (p1.toInt8.toInt32))] t
      refine XS.icmpYes X20.here hx rfl (pc0 := 110) (pc' := 115) rfl (hb hby at_110) rfl (teq (rfl : (p1.toInt8.toInt32) = (p1.toInt8.toInt32))).1 (by decide) (by decide) ?_
      show own_At p e below m T20 115 #[.val (.int p0), .val (.int p1), .val (.int p2), .val (.int p3), .val (.int (1 : Int32)), .val (.ref b13), .val (.ref b17), .val (.ref b13)] [] t
      refine XS.iload X20.here hx rfl (hb hby at_115) rfl ?_
      show own_At p e below m T20 117 #[.val (.int p0), .val (.int p1), .val (.int p2), .val (.int p3), .val (.int (1 : Int32)), .val (.ref b13), .val (.ref b17), .val (.ref b13)] [(.int (1 : Int32))] t
      refine XS.iconst X20.here hx rfl (hb hby at_117) ?_
      show own_At p e below m T20 118 #[.val (.int p0), .val (.int p1), .val (.int p2), .val (.int p3), .val (.int (1 : Int32)), .val (.ref b13), .val (.ref b17), .val (.ref b13)] [(.int (1 : Int32)), (.int (1 : Int32))] t
      refine XS.icmpYes X20.here hx rfl (pc0 := 118) (pc' := 132) rfl (hb hby at_118) rfl (flt (by decide : ¬ ((1 : Int32) < (1 : Int32)))).2.2.2 (by decide) (by decide) ?_
      show own_At p e below m T20 132 #[.val (.int p0), .val (.int p1), .val (.int p2), .val (.int p3), .val (.int (1 : Int32)), .val (.ref b13), .val (.ref b17), .val (.ref b13)] [] t
      refine XS.iload X20.here hx rfl (hb hby at_132) rfl ?_
      show own_At p e below m T20 134 #[.val (.int p0), .val (.int p1), .val (.int p2), .val (.int p3), .val (.int (1 : Int32)), .val (.ref b13), .val (.ref b17), .val (.ref b13)] [(.int (1 : Int32))] t
      refine XS.iconst X20.here hx rfl (hb hby at_134) ?_
      show own_At p e below m T20 135 #[.val (.int p0), .val (.int p1), .val (.int p2), .val (.int p3), .val (.int (1 : Int32)), .val (.ref b13), .val (.ref b17), .val (.ref b13)] [(.int (2 : Int32)), (.int (1 : Int32))] t
      refine XS.icmpYes X20.here hx rfl (pc0 := 135) (pc' := 149) rfl (hb hby at_135) rfl (flt (by decide : ¬ ((2 : Int32) < (1 : Int32)))).2.2.2 (by decide) (by decide) ?_
      show own_At p e below m T20 149 #[.val (.int p0), .val (.int p1), .val (.int p2), .val (.int p3), .val (.int (1 : Int32)), .val (.ref b13), .val (.ref b17), .val (.ref b13)] [] t
      refine XS.iconst X20.here hx rfl (hb hby at_149) ?_
      show own_At p e below m T20 150 #[.val (.int p0), .val (.int p1), .val (.int p2), .val (.int p3), .val (.int (1 : Int32)), .val (.ref b13), .val (.ref b17), .val (.ref b13)] [(.int (1 : Int32))] t
      exact k
    obtain ⟨fs, hr, hrun, hended, hRW⟩ := X20.leaveW hS (by rw [hp20]; exact (Nat.le_refl _)) (v := some (.int (1 : Int32))) (fun h => by rw [Bd.returns] at h; cases h)
    refine hNG ⟨_, _, k26 _ ?_, hrun, hended, _, _, rfl, ?_, hRW.1, hRW.2.1, hRW.2.2.1, hRW.2.2.2.mono (by decide) (by decide)⟩
    · exact retN X20 hx (t := .boolean) Bd.returns (by simp) (hb hby at_150) hr
    · show Q_law Z p0 p1 p2 p3 a_DONE h0 n0 _ T20.heap _
      rw [hp20]
      exact ⟨rfl, N20⟩
  · have k27 : ∀ t, own_At p e below m s₁ 3 #[.val (.int p0), .val (.int p1), .val (.int p2), .val (.int p3), .unset, .unset, .unset, .unset] [(.int (2 : Int32))] t → own_En p e below m s₁ #[(.int p0), (.int p1), (.int p2), (.int p3)] maxLocals t := by
      intro t k
      refine k1 t ?_
      rw [hs2]
      exact k
    obtain ⟨T28, h28, c28, X28, e28, E28, A28, st28⟩ := newP X0 hx hZ (own_w hw 0 rfl) e0 (g := (mkF m 7 #[.val (.int p0), .val (.int p1), .val (.int p2), .val (.int p3), .val (.int (2 : Int32)), .unset, .unset, .unset] [(.int (2 : Int32))])) rfl (hb hby at_7) rfl (by decide) (cap := 2) (by decide) (by decide) (by decide) (by decide)
    obtain ⟨b28, g28⟩ : ∃ z, z = h0.size := ⟨_, rfl⟩
    rw [← g28] at A28 st28
    have O28 := O0.ext E28
    have g_b28 : n0 ≤ b28 := Nat.le_trans (Nat.le_of_eq O0.1.symm) (Nat.le_trans O0.2.1 (Nat.le_of_eq g28.symm))
    have s_b28 : h0.size ≤ b28 := Nat.le_trans K0.1 (Nat.le_of_eq g28.symm)
    have K28 := K0.ext E28
    have V28 : Arv Z h28 b28 c28 .byte (2 : Int32) [(.int (0 : Int32)), (.int (0 : Int32))] (.int (0 : Int32)) := (Arv.new A28 (by decide)).pad (pad_rep [] (.int (0 : Int32)) 2)
    have lt_b28 := V28.lt
    obtain ⟨cl29, Ar29, q29, Sz29, Nn29, Hs29, Gf29⟩ := id V28
    have hin30 : ¬ ((0 : Int32) < 0 ∨ cl29.slots.size ≤ ((0 : Int32)).toNatClampNeg) := inb_of Sz29 ⟨by decide, by decide⟩
    obtain ⟨T31, h31, X31, e31, W31, st31⟩ := stB X28 hx hZ e28 Ar29 (j := (0 : Int32)) hin30 (g := (mkF m 21 #[.val (.int p0), .val (.int p1), .val (.int p2), .val (.int p3), .val (.int (2 : Int32)), .val (.ref b28), .unset, .unset] [(.int (p1.toInt8.toInt32)), (.int (0 : Int32)), (.ref b28)])) rfl rfl (hb hby at_21)
    have V31 : Arv Z h31 b28 c28 .byte (2 : Int32) [(.int (p1.toInt8.toInt32)), (.int (0 : Int32))] (.int (0 : Int32)) := by
      have q := Arv.set Ar29 q29 Sz29 Nn29 Hs29 Gf29 (fits_nar_byte _) W31 0 rfl (Nat.le_of_ble_eq_true rfl)
      first | exact q | (simp only [own_b2, own_narb2] at q; exact q)
    have N31 := Fr.snoc X31 N0 g_b28
    have O31 := O28.wr W31 g_b28
    have K31 := K28.wr W31 (Or.inr s_b28)
    obtain ⟨cl32, Ar32, q32, Sz32, Nn32, Hs32, Gf32⟩ := id V31
    have hin33 : ¬ ((1 : Int32) < 0 ∨ cl32.slots.size ≤ ((1 : Int32)).toNatClampNeg) := inb_of Sz32 ⟨by decide, by decide⟩
    obtain ⟨T34, h34, X34, e34, W34, st34⟩ := stB X31 hx hZ e31 Ar32 (j := (1 : Int32)) hin33 (g := (mkF m 33 #[.val (.int p0), .val (.int p1), .val (.int p2), .val (.int p3), .val (.int (2 : Int32)), .val (.ref b28), .unset, .unset] [(.int (p2.toInt8.toInt32)), (.int (1 : Int32)), (.ref b28)])) rfl rfl (hb hby at_33)
    have V34 : Arv Z h34 b28 c28 .byte (2 : Int32) [(.int (p1.toInt8.toInt32)), (.int (p2.toInt8.toInt32))] (.int (0 : Int32)) := by
      have q := Arv.set Ar32 q32 Sz32 Nn32 Hs32 Gf32 (fits_nar_byte _) W34 1 rfl (Nat.le_of_ble_eq_true rfl)
      first | exact q | (simp only [own_b2, own_narb2] at q; exact q)
    have N34 := Fr.snoc X34 N31 g_b28
    have O34 := O31.wr W34 g_b28
    have K34 := K31.wr W34 (Or.inr s_b28)
    obtain ⟨_, _, ⟨T35, L35, k35, n35⟩, -, X35, hS35, hg35, ⟨Lc35, hQ35, l35, y35, z35⟩, st35⟩ := callSS X34 hx (y := own_m3) hown (mvT hZ (own_w hw 1 rfl)) (mvT hZ (own_w hw 2 rfl)) (mvT hZ (own_w hw 3 rfl)) (mvT hZ (own_w hw 4 rfl)) (by decide) (backOfS (W := 0) (rm_dn l Z a0 hw [] b28 _ h34 n0 O34 hE  ) hZ (own_w hw 4 rfl) (own_w hw 3 rfl) (by decide) (by decide)) (g := (mkF m 48 #[.val (.int p0), .val (.int p1), .val (.int p2), .val (.int p3), .val (.int (2 : Int32)), .val (.ref b28), .unset, .unset] [(.ref b28)])) rfl (by rw [hml]; rfl) (argsL := [(.ref b28)]) (rest := []) (lenOf pd___B_Lcom_example_attenuation_attenuation_core_Outcome_ rfl) rfl (by show 2 * 0 + _ ≤ _; exact Nat.le_of_eq rfl) (hb hby at_48) (fun _ _ => ⟨rfl, e34, (by decide : 1 + 5 ≤ _), (by decide : 2 + 50 ≤ _)⟩)
    dsimp only [Pt.U, Pt.locs, Pt.cells, Pt.slots] at X35 l35 y35 z35 st35 hQ35 hS35 hg35
    subst l35 y35 z35
    obtain ⟨X35, hS, hZ, hown⟩ := rebS hS (by rw [e34]; exact (Nat.le_trans (Nat.le_trans (Nat.le_trans (Nat.zero_le _) E28.1) (Keep.of_wr W31).1) (Keep.of_wr W34).1)) X35 hS35 hg35 hZ hown
    obtain ⟨b35, rfl, N35q, O35, Kc35, g_b35, gs_b35, F35_0, F35_1, F35_2⟩ := hQ35
    have N35 := Fr.app N34 N35q
    have K35 := K34.trans Kc35 (fun x hx => nomatch hx)
    have s_b35 := Nat.le_trans K34.1 gs_b35
    have lt_b35 := F35_0.lt
    obtain ⟨cq36, kq36, q36a, q36b, q36c⟩ := isOf hZ rfl F35_0
    obtain ⟨_, _, ⟨T36, L36, k36, n36⟩, -, X36, ⟨Lc36, hQ36, l36, y36, z36⟩, st36⟩ := X35.virtualBack hx (y := own_m4) (z := own_m4) hown (mvT hZ (own_w hw 37 rfl)) (mvT hZ (own_w hw 38 rfl)) (notFace_of_selects (args := #[]) (mvT hZ (own_w hw 40 rfl))) (mvT hZ (own_w hw 40 rfl)) (mvT hZ (own_w hw 39 rfl)) (by decide) (backOf (W := 0) (rm_gs l Z a0 hw [] b35 a_DONE _ T35.heap n0 O35 hE F35_1 ) hZ (own_w hw 41 rfl) (own_w hw 3 rfl) (by decide) (by decide)) q36a q36c (g := (mkF m 62 #[.val (.int p0), .val (.int p1), .val (.int p2), .val (.int p3), .val (.int (2 : Int32)), .val (.ref b28), .val (.ref b35), .unset] [(.ref b35)])) rfl (by rw [hml]; rfl) (Steps.refl _) (argsL := []) (rest := []) (lenOf pd___Lcom_example_attenuation_attenuation_core_Outcome_Status_ rfl) rfl (by show 2 * 0 + _ ≤ _; exact Nat.le_of_eq rfl) (hb hby at_62) (fun _ _ => ⟨rfl, rfl, (by decide : 6 + 0 ≤ _), (by decide : 52 + 0 ≤ _)⟩)
    dsimp only [Pt.U, Pt.locs, Pt.cells, Pt.slots] at X36 l36 y36 z36 st36 hQ36
    subst l36 y36 z36
    obtain ⟨rfl, N36q, hp36⟩ := hQ36
    have N36 := Fr.app N35 N36q
    obtain ⟨T37, X37, e37, st37⟩ := getS2 X36 hx hZ hown (host := "") (Or.inl (own_w hw 42 rfl)) Via.refl hp36 (S_DONE.ext O35.2) (g := (mkF m 65 #[.val (.int p0), .val (.int p1), .val (.int p2), .val (.int p3), .val (.int (2 : Int32)), .val (.ref b28), .val (.ref b35), .unset] [(.ref a_DONE)])) rfl (hb hby at_65)
    obtain ⟨cq38, kq38, q38a, q38b, q38c⟩ := isOf hZ e37 F35_0
    obtain ⟨_, _, ⟨T38, L38, k38, n38⟩, -, X38, ⟨Lc38, hQ38, l38, y38, z38⟩, st38⟩ := X37.virtualBack hx (y := own_m5) (z := own_m5) hown (mvT hZ (own_w hw 43 rfl)) (mvT hZ (own_w hw 44 rfl)) (notFace_of_selects (args := #[]) (mvT hZ (own_w hw 46 rfl))) (mvT hZ (own_w hw 46 rfl)) (mvT hZ (own_w hw 45 rfl)) (by decide) (backOf (W := 0) (rm_gb l Z a0 hw [] b35 b28 _ T35.heap n0 O35 hE F35_2 ) hZ (own_w hw 47 rfl) (own_w hw 3 rfl) (by decide) (by decide)) q38a q38c (g := (mkF m 75 #[.val (.int p0), .val (.int p1), .val (.int p2), .val (.int p3), .val (.int (2 : Int32)), .val (.ref b28), .val (.ref b35), .unset] [(.ref b35)])) rfl (by rw [hml]; rfl) (Steps.refl _) (argsL := []) (rest := []) (lenOf pd____B rfl) rfl (by show 2 * 0 + _ ≤ _; exact Nat.le_of_eq rfl) (hb hby at_75) (fun _ _ => ⟨rfl, e37, (by decide : 6 + 0 ≤ _), (by decide : 52 + 0 ≤ _)⟩)
    dsimp only [Pt.U, Pt.locs, Pt.cells, Pt.slots] at X38 l38 y38 z38 st38 hQ38
    subst l38 y38 z38
    obtain ⟨rfl, N38q, hp38⟩ := hQ38
    have N38 := Fr.app N36 N38q
    have f39 := (V34.keep Kc35 List.not_mem_nil)
    obtain ⟨cl40, Ar40, q40, Sz40, Nn40, Hs40, Gf40⟩ := id f39
    obtain ⟨cl41, Ar41, q41, Sz41, Nn41, Hs41, Gf41⟩ := id f39
    have hin42 : ¬ ((0 : Int32) < 0 ∨ cl41.slots.size ≤ ((0 : Int32)).toNatClampNeg) := inb_of Sz41 ⟨by decide, by decide⟩
    have hat43 : cl41.slots[((0 : Int32)).toNatClampNeg]? = some (.int (p1.toInt8.toInt32)) := Hs41.at hin42 rfl
    obtain ⟨cl44, Ar44, q44, Sz44, Nn44, Hs44, Gf44⟩ := id f39
    have hin45 : ¬ ((1 : Int32) < 0 ∨ cl44.slots.size ≤ ((1 : Int32)).toNatClampNeg) := inb_of Sz44 ⟨by decide, by decide⟩
    have hat46 : cl44.slots[((1 : Int32)).toNatClampNeg]? = some (.int (p2.toInt8.toInt32)) := Hs44.at hin45 rfl
    have k47 : ∀ t, own_At p e below m T38 150 #[.val (.int p0), .val (.int p1), .val (.int p2), .val (.int p3), .val (.int (2 : Int32)), .val (.ref b28), .val (.ref b35), .val (.ref b28)] [(.int (1 : Int32))] t → own_En p e below m s₁ #[(.int p0), (.int p1), (.int p2), (.int p3)] maxLocals t := by
      intro t k
      refine k27 t ?_
      refine XS.istore X0.here hx rfl (hb hby at_3) rfl (l' := #[.val (.int p0), .val (.int p1), .val (.int p2), .val (.int p3), .val (.int (2 : Int32)), .unset, .unset, .unset]) rfl ?_
      show own_At p e below m s₁ 5 #[.val (.int p0), .val (.int p1), .val (.int p2), .val (.int p3), .val (.int (2 : Int32)), .unset, .unset, .unset] [] t
      refine XS.iload X0.here hx rfl (hb hby at_5) rfl ?_
      show own_At p e below m s₁ 7 #[.val (.int p0), .val (.int p1), .val (.int p2), .val (.int p3), .val (.int (2 : Int32)), .unset, .unset, .unset] [(.int (2 : Int32))] t
      refine st28 _ ?_
      show own_At p e below m T28 9 #[.val (.int p0), .val (.int p1), .val (.int p2), .val (.int p3), .val (.int (2 : Int32)), .unset, .unset, .unset] [(.ref b28)] t
      refine XS.astore X28.here hx rfl (hb hby at_9) rfl rfl (l' := #[.val (.int p0), .val (.int p1), .val (.int p2), .val (.int p3), .val (.int (2 : Int32)), .val (.ref b28), .unset, .unset]) rfl ?_
      show own_At p e below m T28 11 #[.val (.int p0), .val (.int p1), .val (.int p2), .val (.int p3), .val (.int (2 : Int32)), .val (.ref b28), .unset, .unset] [] t
      refine XS.iload X28.here hx rfl (hb hby at_11) rfl ?_
      show own_At p e below m T28 13 #[.val (.int p0), .val (.int p1), .val (.int p2), .val (.int p3), .val (.int (2 : Int32)), .val (.ref b28), .unset, .unset] [(.int (2 : Int32))] t
      refine XS.ifNo X28.here hx rfl (hb hby at_13) rfl ((if0 _ _).trans (tlt (by decide : (0 : Int32) < (2 : Int32))).2.2.2) ?_
      show own_At p e below m T28 16 #[.val (.int p0), .val (.int p1), .val (.int p2), .val (.int p3), .val (.int (2 : Int32)), .val (.ref b28), .unset, .unset] [] t
      refine XS.aload X28.here hx rfl (hb hby at_16) rfl rfl ?_
      show own_At p e below m T28 18 #[.val (.int p0), .val (.int p1), .val (.int p2), .val (.int p3), .val (.int (2 : Int32)), .val (.ref b28), .unset, .unset] [(.ref b28)] t
      refine XS.iconst X28.here hx rfl (hb hby at_18) ?_
      show own_At p e below m T28 19 #[.val (.int p0), .val (.int p1), .val (.int p2), .val (.int p3), .val (.int (2 : Int32)), .val (.ref b28), .unset, .unset] [(.int (0 : Int32)), (.ref b28)] t
      refine XS.iloadN X28.here hx rfl (hb hby at_19) rfl ?_
      show own_At p e below m T28 20 #[.val (.int p0), .val (.int p1), .val (.int p2), .val (.int p3), .val (.int (2 : Int32)), .val (.ref b28), .unset, .unset] [(.int p1), (.int (0 : Int32)), (.ref b28)] t
      refine XS.i2b X28.here hx rfl (hb hby at_20) rfl ?_
      show own_At p e below m T28 21 #[.val (.int p0), .val (.int p1), .val (.int p2), .val (.int p3), .val (.int (2 : Int32)), .val (.ref b28), .unset, .unset] [(.int (p1.toInt8.toInt32)), (.int (0 : Int32)), (.ref b28)] t
      refine st31 _ ?_
      show own_At p e below m T31 22 #[.val (.int p0), .val (.int p1), .val (.int p2), .val (.int p3), .val (.int (2 : Int32)), .val (.ref b28), .unset, .unset] [] t
      refine XS.iload X31.here hx rfl (hb hby at_22) rfl ?_
      show own_At p e below m T31 24 #[.val (.int p0), .val (.int p1), .val (.int p2), .val (.int p3), .val (.int (2 : Int32)), .val (.ref b28), .unset, .unset] [(.int (2 : Int32))] t
      refine XS.iconst X31.here hx rfl (hb hby at_24) ?_
      show own_At p e below m T31 25 #[.val (.int p0), .val (.int p1), .val (.int p2), .val (.int p3), .val (.int (2 : Int32)), .val (.ref b28), .unset, .unset] [(.int (1 : Int32)), (.int (2 : Int32))] t
      refine XS.icmpNo X31.here hx rfl (hb hby at_25) rfl (tlt (by decide : (1 : Int32) < (2 : Int32))).2.2.2 ?_
      show own_At p e below m T31 28 #[.val (.int p0), .val (.int p1), .val (.int p2), .val (.int p3), .val (.int (2 : Int32)), .val (.ref b28), .unset, .unset] [] t
      refine XS.aload X31.here hx rfl (hb hby at_28) rfl rfl ?_
      show own_At p e below m T31 30 #[.val (.int p0), .val (.int p1), .val (.int p2), .val (.int p3), .val (.int (2 : Int32)), .val (.ref b28), .unset, .unset] [(.ref b28)] t
      refine XS.iconst X31.here hx rfl (hb hby at_30) ?_
      show own_At p e below m T31 31 #[.val (.int p0), .val (.int p1), .val (.int p2), .val (.int p3), .val (.int (2 : Int32)), .val (.ref b28), .unset, .unset] [(.int (1 : Int32)), (.ref b28)] t
      refine XS.iloadN X31.here hx rfl (hb hby at_31) rfl ?_
      show own_At p e below m T31 32 #[.val (.int p0), .val (.int p1), .val (.int p2), .val (.int p3), .val (.int (2 : Int32)), .val (.ref b28), .unset, .unset] [(.int p2), (.int (1 : Int32)), (.ref b28)] t
      refine XS.i2b X31.here hx rfl (hb hby at_32) rfl ?_
      show own_At p e below m T31 33 #[.val (.int p0), .val (.int p1), .val (.int p2), .val (.int p3), .val (.int (2 : Int32)), .val (.ref b28), .unset, .unset] [(.int (p2.toInt8.toInt32)), (.int (1 : Int32)), (.ref b28)] t
      refine st34 _ ?_
      show own_At p e below m T34 34 #[.val (.int p0), .val (.int p1), .val (.int p2), .val (.int p3), .val (.int (2 : Int32)), .val (.ref b28), .unset, .unset] [] t
      refine XS.iload X34.here hx rfl (hb hby at_34) rfl ?_
      show own_At p e below m T34 36 #[.val (.int p0), .val (.int p1), .val (.int p2), .val (.int p3), .val (.int (2 : Int32)), .val (.ref b28), .unset, .unset] [(.int (2 : Int32))] t
      refine XS.iconst X34.here hx rfl (hb hby at_36) ?_
      show own_At p e below m T34 37 #[.val (.int p0), .val (.int p1), .val (.int p2), .val (.int p3), .val (.int (2 : Int32)), .val (.ref b28), .unset, .unset] [(.int (2 : Int32)), (.int (2 : Int32))] t
      refine XS.icmpYes X34.here hx rfl (pc0 := 37) (pc' := 46) rfl (hb hby at_37) rfl (flt (by decide : ¬ ((2 : Int32) < (2 : Int32)))).2.2.2 (by decide) (by decide) ?_
      show own_At p e below m T34 46 #[.val (.int p0), .val (.int p1), .val (.int p2), .val (.int p3), .val (.int (2 : Int32)), .val (.ref b28), .unset, .unset] [] t
      refine XS.aload X34.here hx rfl (hb hby at_46) rfl rfl ?_
      show own_At p e below m T34 48 #[.val (.int p0), .val (.int p1), .val (.int p2), .val (.int p3), .val (.int (2 : Int32)), .val (.ref b28), .unset, .unset] [(.ref b28)] t
      refine st35.trans ?_
      show own_At p e below m T35 51 #[.val (.int p0), .val (.int p1), .val (.int p2), .val (.int p3), .val (.int (2 : Int32)), .val (.ref b28), .unset, .unset] [(.ref b35)] t
      refine XS.astore X35.here hx rfl (hb hby at_51) rfl rfl (l' := #[.val (.int p0), .val (.int p1), .val (.int p2), .val (.int p3), .val (.int (2 : Int32)), .val (.ref b28), .val (.ref b35), .unset]) rfl ?_
      show own_At p e below m T35 53 #[.val (.int p0), .val (.int p1), .val (.int p2), .val (.int p3), .val (.int (2 : Int32)), .val (.ref b28), .val (.ref b35), .unset] [] t
      refine XS.aload X35.here hx rfl (hb hby at_53) rfl rfl ?_
      show own_At p e below m T35 55 #[.val (.int p0), .val (.int p1), .val (.int p2), .val (.int p3), .val (.int (2 : Int32)), .val (.ref b28), .val (.ref b35), .unset] [(.ref b35)] t
      refine XS.ifnonnullYes X35.here hx rfl (pc0 := 55) (pc' := 60) rfl (hb hby at_55) rfl (by decide) (by decide) ?_
      show own_At p e below m T35 60 #[.val (.int p0), .val (.int p1), .val (.int p2), .val (.int p3), .val (.int (2 : Int32)), .val (.ref b28), .val (.ref b35), .unset] [] t
      refine XS.aload X35.here hx rfl (hb hby at_60) rfl rfl ?_
      show own_At p e below m T35 62 #[.val (.int p0), .val (.int p1), .val (.int p2), .val (.int p3), .val (.int (2 : Int32)), .val (.ref b28), .val (.ref b35), .unset] [(.ref b35)] t
      refine st36.trans ?_
      show own_At p e below m T36 65 #[.val (.int p0), .val (.int p1), .val (.int p2), .val (.int p3), .val (.int (2 : Int32)), .val (.ref b28), .val (.ref b35), .unset] [(.ref a_DONE)] t
      refine st37 _ ?_
      show own_At p e below m T37 68 #[.val (.int p0), .val (.int p1), .val (.int p2), .val (.int p3), .val (.int (2 : Int32)), .val (.ref b28), .val (.ref b35), .unset] [(.ref a_DONE), (.ref a_DONE)] t
      refine Jvm.RoadKit.acmp (g := (mkF m 68 #[.val (.int p0), .val (.int p1), .val (.int p2), .val (.int p3), .val (.int (2 : Int32)), .val (.ref b28), .val (.ref b35), .unset] [(.ref a_DONE), (.ref a_DONE)])) X37 hx rfl rfl rfl (pc0 := 68) (pc' := 73) (same := true) rfl (hb hby at_68) rfl (decide_eq_true rfl) (by decide) (by decide) ?_
      show own_At p e below m T37 73 #[.val (.int p0), .val (.int p1), .val (.int p2), .val (.int p3), .val (.int (2 : Int32)), .val (.ref b28), .val (.ref b35), .unset] [] t
      refine XS.aload X37.here hx rfl (hb hby at_73) rfl rfl ?_
      show own_At p e below m T37 75 #[.val (.int p0), .val (.int p1), .val (.int p2), .val (.int p3), .val (.int (2 : Int32)), .val (.ref b28), .val (.ref b35), .unset] [(.ref b35)] t
      refine st38.trans ?_
      show own_At p e below m T38 78 #[.val (.int p0), .val (.int p1), .val (.int p2), .val (.int p3), .val (.int (2 : Int32)), .val (.ref b28), .val (.ref b35), .unset] [(.ref b28)] t
      refine XS.astore X38.here hx rfl (hb hby at_78) rfl rfl (l' := #[.val (.int p0), .val (.int p1), .val (.int p2), .val (.int p3), .val (.int (2 : Int32)), .val (.ref b28), .val (.ref b35), .val (.ref b28)]) rfl ?_
      show own_At p e below m T38 80 #[.val (.int p0), .val (.int p1), .val (.int p2), .val (.int p3), .val (.int (2 : Int32)), .val (.ref b28), .val (.ref b35), .val (.ref b28)] [] t
      refine XS.aload X38.here hx rfl (hb hby at_80) rfl rfl ?_
      show own_At p e below m T38 82 #[.val (.int p0), .val (.int p1), .val (.int p2), .val (.int p3), .val (.int (2 : Int32)), .val (.ref b28), .val (.ref b35), .val (.ref b28)] [(.ref b28)] t
      refine XS.aload X38.here hx rfl (hb hby at_82) rfl rfl ?_
      show own_At p e below m T38 84 #[.val (.int p0), .val (.int p1), .val (.int p2), .val (.int p3), .val (.int (2 : Int32)), .val (.ref b28), .val (.ref b35), .val (.ref b28)] [(.ref b28), (.ref b28)] t
      refine Jvm.RoadKit.acmp (g := (mkF m 84 #[.val (.int p0), .val (.int p1), .val (.int p2), .val (.int p3), .val (.int (2 : Int32)), .val (.ref b28), .val (.ref b35), .val (.ref b28)] [(.ref b28), (.ref b28)])) X38 hx rfl rfl rfl (pc0 := 84) (pc' := 89) (same := true) rfl (hb hby at_84) rfl (decide_eq_true rfl) (by decide) (by decide) ?_
      show own_At p e below m T38 89 #[.val (.int p0), .val (.int p1), .val (.int p2), .val (.int p3), .val (.int (2 : Int32)), .val (.ref b28), .val (.ref b35), .val (.ref b28)] [] t
      refine XS.aload X38.here hx rfl (hb hby at_89) rfl rfl ?_
      show own_At p e below m T38 91 #[.val (.int p0), .val (.int p1), .val (.int p2), .val (.int p3), .val (.int (2 : Int32)), .val (.ref b28), .val (.ref b35), .val (.ref b28)] [(.ref b28)] t
      refine X38.arraylength hx (by rw [hp38]; exact Ar40.1) (State.isArrayOf_alike hZ.alike Ar40.2.1) (g := (mkF m 91 #[.val (.int p0), .val (.int p1), .val (.int p2), .val (.int p3), .val (.int (2 : Int32)), .val (.ref b28), .val (.ref b35), .val (.ref b28)] [(.ref b28)])) rfl rfl (hb hby at_91) _ ?_
      rw [len_of Sz40 Nn40]
      show own_At p e below m T38 92 #[.val (.int p0), .val (.int p1), .val (.int p2), .val (.int p3), .val (.int (2 : Int32)), .val (.ref b28), .val (.ref b35), .val (.ref b28)] [(.int (2 : Int32))] t
      refine XS.iload X38.here hx rfl (hb hby at_92) rfl ?_
      show own_At p e below m T38 94 #[.val (.int p0), .val (.int p1), .val (.int p2), .val (.int p3), .val (.int (2 : Int32)), .val (.ref b28), .val (.ref b35), .val (.ref b28)] [(.int (2 : Int32)), (.int (2 : Int32))] t
      refine XS.icmpYes X38.here hx rfl (pc0 := 94) (pc' := 99) rfl (hb hby at_94) rfl (teq (by decide : (2 : Int32) = (2 : Int32))).1 (by decide) (by decide) ?_
      show own_At p e below m T38 99 #[.val (.int p0), .val (.int p1), .val (.int p2), .val (.int p3), .val (.int (2 : Int32)), .val (.ref b28), .val (.ref b35), .val (.ref b28)] [] t
      refine XS.iload X38.here hx rfl (hb hby at_99) rfl ?_
      show own_At p e below m T38 101 #[.val (.int p0), .val (.int p1), .val (.int p2), .val (.int p3), .val (.int (2 : Int32)), .val (.ref b28), .val (.ref b35), .val (.ref b28)] [(.int (2 : Int32))] t
      refine XS.ifNo X38.here hx rfl (hb hby at_101) rfl ((if0 _ _).trans (tlt (by decide : (0 : Int32) < (2 : Int32))).2.2.2) ?_
      show own_At p e below m T38 104 #[.val (.int p0), .val (.int p1), .val (.int p2), .val (.int p3), .val (.int (2 : Int32)), .val (.ref b28), .val (.ref b35), .val (.ref b28)] [] t
      refine XS.aload X38.here hx rfl (hb hby at_104) rfl rfl ?_
      show own_At p e below m T38 106 #[.val (.int p0), .val (.int p1), .val (.int p2), .val (.int p3), .val (.int (2 : Int32)), .val (.ref b28), .val (.ref b35), .val (.ref b28)] [(.ref b28)] t
      refine XS.iconst X38.here hx rfl (hb hby at_106) ?_
      show own_At p e below m T38 107 #[.val (.int p0), .val (.int p1), .val (.int p2), .val (.int p3), .val (.int (2 : Int32)), .val (.ref b28), .val (.ref b35), .val (.ref b28)] [(.int (0 : Int32)), (.ref b28)] t
      refine X38.baloadBytes hx (j := (0 : Int32)) (v := (.int (p1.toInt8.toInt32))) (by rw [hp38]; exact Ar41.1) (State.isArrayOf_alike hZ.alike Ar41.2.1) Ar41.2.2 hin42 hat43 (g := (mkF m 107 #[.val (.int p0), .val (.int p1), .val (.int p2), .val (.int p3), .val (.int (2 : Int32)), .val (.ref b28), .val (.ref b35), .val (.ref b28)] [(.int (0 : Int32)), (.ref b28)])) rfl rfl (hb hby at_107) _ ?_
      show own_At p e below m T38 108 #[.val (.int p0), .val (.int p1), .val (.int p2), .val (.int p3), .val (.int (2 : Int32)), .val (.ref b28), .val (.ref b35), .val (.ref b28)] [(.int (p1.toInt8.toInt32))] t
      refine XS.iloadN X38.here hx rfl (hb hby at_108) rfl ?_
      show own_At p e below m T38 109 #[.val (.int p0), .val (.int p1), .val (.int p2), .val (.int p3), .val (.int (2 : Int32)), .val (.ref b28), .val (.ref b35), .val (.ref b28)] [(.int p1), (.int (p1.toInt8.toInt32))] t
      refine XS.i2b X38.here hx rfl (hb hby at_109) rfl ?_
      show own_At p e below m T38 110 #[.val (.int p0), .val (.int p1), .val (.int p2), .val (.int p3), .val (.int (2 : Int32)), .val (.ref b28), .val (.ref b35), .val (.ref b28)] [(.int (p1.toInt8.toInt32)), (.int (p1.toInt8.toInt32))] t
      refine XS.icmpYes X38.here hx rfl (pc0 := 110) (pc' := 115) rfl (hb hby at_110) rfl (teq (rfl : (p1.toInt8.toInt32) = (p1.toInt8.toInt32))).1 (by decide) (by decide) ?_
      show own_At p e below m T38 115 #[.val (.int p0), .val (.int p1), .val (.int p2), .val (.int p3), .val (.int (2 : Int32)), .val (.ref b28), .val (.ref b35), .val (.ref b28)] [] t
      refine XS.iload X38.here hx rfl (hb hby at_115) rfl ?_
      show own_At p e below m T38 117 #[.val (.int p0), .val (.int p1), .val (.int p2), .val (.int p3), .val (.int (2 : Int32)), .val (.ref b28), .val (.ref b35), .val (.ref b28)] [(.int (2 : Int32))] t
      refine XS.iconst X38.here hx rfl (hb hby at_117) ?_
      show own_At p e below m T38 118 #[.val (.int p0), .val (.int p1), .val (.int p2), .val (.int p3), .val (.int (2 : Int32)), .val (.ref b28), .val (.ref b35), .val (.ref b28)] [(.int (1 : Int32)), (.int (2 : Int32))] t
      refine XS.icmpNo X38.here hx rfl (hb hby at_118) rfl (tlt (by decide : (1 : Int32) < (2 : Int32))).2.2.2 ?_
      show own_At p e below m T38 121 #[.val (.int p0), .val (.int p1), .val (.int p2), .val (.int p3), .val (.int (2 : Int32)), .val (.ref b28), .val (.ref b35), .val (.ref b28)] [] t
      refine XS.aload X38.here hx rfl (hb hby at_121) rfl rfl ?_
      show own_At p e below m T38 123 #[.val (.int p0), .val (.int p1), .val (.int p2), .val (.int p3), .val (.int (2 : Int32)), .val (.ref b28), .val (.ref b35), .val (.ref b28)] [(.ref b28)] t
      refine XS.iconst X38.here hx rfl (hb hby at_123) ?_
      show own_At p e below m T38 124 #[.val (.int p0), .val (.int p1), .val (.int p2), .val (.int p3), .val (.int (2 : Int32)), .val (.ref b28), .val (.ref b35), .val (.ref b28)] [(.int (1 : Int32)), (.ref b28)] t
      refine X38.baloadBytes hx (j := (1 : Int32)) (v := (.int (p2.toInt8.toInt32))) (by rw [hp38]; exact Ar44.1) (State.isArrayOf_alike hZ.alike Ar44.2.1) Ar44.2.2 hin45 hat46 (g := (mkF m 124 #[.val (.int p0), .val (.int p1), .val (.int p2), .val (.int p3), .val (.int (2 : Int32)), .val (.ref b28), .val (.ref b35), .val (.ref b28)] [(.int (1 : Int32)), (.ref b28)])) rfl rfl (hb hby at_124) _ ?_
      show own_At p e below m T38 125 #[.val (.int p0), .val (.int p1), .val (.int p2), .val (.int p3), .val (.int (2 : Int32)), .val (.ref b28), .val (.ref b35), .val (.ref b28)] [(.int (p2.toInt8.toInt32))] t
      refine XS.iloadN X38.here hx rfl (hb hby at_125) rfl ?_
      show own_At p e below m T38 126 #[.val (.int p0), .val (.int p1), .val (.int p2), .val (.int p3), .val (.int (2 : Int32)), .val (.ref b28), .val (.ref b35), .val (.ref b28)] [(.int p2), (.int (p2.toInt8.toInt32))] t
      refine XS.i2b X38.here hx rfl (hb hby at_126) rfl ?_
      show own_At p e below m T38 127 #[.val (.int p0), .val (.int p1), .val (.int p2), .val (.int p3), .val (.int (2 : Int32)), .val (.ref b28), .val (.ref b35), .val (.ref b28)] [(.int (p2.toInt8.toInt32)), (.int (p2.toInt8.toInt32))] t
      refine XS.icmpYes X38.here hx rfl (pc0 := 127) (pc' := 132) rfl (hb hby at_127) rfl (teq (rfl : (p2.toInt8.toInt32) = (p2.toInt8.toInt32))).1 (by decide) (by decide) ?_
      show own_At p e below m T38 132 #[.val (.int p0), .val (.int p1), .val (.int p2), .val (.int p3), .val (.int (2 : Int32)), .val (.ref b28), .val (.ref b35), .val (.ref b28)] [] t
      refine XS.iload X38.here hx rfl (hb hby at_132) rfl ?_
      show own_At p e below m T38 134 #[.val (.int p0), .val (.int p1), .val (.int p2), .val (.int p3), .val (.int (2 : Int32)), .val (.ref b28), .val (.ref b35), .val (.ref b28)] [(.int (2 : Int32))] t
      refine XS.iconst X38.here hx rfl (hb hby at_134) ?_
      show own_At p e below m T38 135 #[.val (.int p0), .val (.int p1), .val (.int p2), .val (.int p3), .val (.int (2 : Int32)), .val (.ref b28), .val (.ref b35), .val (.ref b28)] [(.int (2 : Int32)), (.int (2 : Int32))] t
      refine XS.icmpYes X38.here hx rfl (pc0 := 135) (pc' := 149) rfl (hb hby at_135) rfl (flt (by decide : ¬ ((2 : Int32) < (2 : Int32)))).2.2.2 (by decide) (by decide) ?_
      show own_At p e below m T38 149 #[.val (.int p0), .val (.int p1), .val (.int p2), .val (.int p3), .val (.int (2 : Int32)), .val (.ref b28), .val (.ref b35), .val (.ref b28)] [] t
      refine XS.iconst X38.here hx rfl (hb hby at_149) ?_
      show own_At p e below m T38 150 #[.val (.int p0), .val (.int p1), .val (.int p2), .val (.int p3), .val (.int (2 : Int32)), .val (.ref b28), .val (.ref b35), .val (.ref b28)] [(.int (1 : Int32))] t
      exact k
    obtain ⟨fs, hr, hrun, hended, hRW⟩ := X38.leaveW hS (by rw [hp38]; exact (Nat.le_refl _)) (v := some (.int (1 : Int32))) (fun h => by rw [Bd.returns] at h; cases h)
    refine hNG ⟨_, _, k47 _ ?_, hrun, hended, _, _, rfl, ?_, hRW.1, hRW.2.1, hRW.2.2.1, hRW.2.2.2.mono (by decide) (by decide)⟩
    · exact retN X38 hx (t := .boolean) Bd.returns (by simp) (hb hby at_150) hr
    · show Q_law Z p0 p1 p2 p3 a_DONE h0 n0 _ T38.heap _
      rw [hp38]
      exact ⟨rfl, N38⟩
  · have k48 : ∀ t, own_At p e below m s₁ 3 #[.val (.int p0), .val (.int p1), .val (.int p2), .val (.int p3), .unset, .unset, .unset, .unset] [(.int (3 : Int32))] t → own_En p e below m s₁ #[(.int p0), (.int p1), (.int p2), (.int p3)] maxLocals t := by
      intro t k
      refine k1 t ?_
      rw [hs2]
      exact k
    obtain ⟨T49, h49, c49, X49, e49, E49, A49, st49⟩ := newP X0 hx hZ (own_w hw 0 rfl) e0 (g := (mkF m 7 #[.val (.int p0), .val (.int p1), .val (.int p2), .val (.int p3), .val (.int (3 : Int32)), .unset, .unset, .unset] [(.int (3 : Int32))])) rfl (hb hby at_7) rfl (by decide) (cap := 3) (by decide) (by decide) (by decide) (by decide)
    obtain ⟨b49, g49⟩ : ∃ z, z = h0.size := ⟨_, rfl⟩
    rw [← g49] at A49 st49
    have O49 := O0.ext E49
    have g_b49 : n0 ≤ b49 := Nat.le_trans (Nat.le_of_eq O0.1.symm) (Nat.le_trans O0.2.1 (Nat.le_of_eq g49.symm))
    have s_b49 : h0.size ≤ b49 := Nat.le_trans K0.1 (Nat.le_of_eq g49.symm)
    have K49 := K0.ext E49
    have V49 : Arv Z h49 b49 c49 .byte (3 : Int32) [(.int (0 : Int32)), (.int (0 : Int32)), (.int (0 : Int32))] (.int (0 : Int32)) := (Arv.new A49 (by decide)).pad (pad_rep [] (.int (0 : Int32)) 3)
    have lt_b49 := V49.lt
    obtain ⟨cl50, Ar50, q50, Sz50, Nn50, Hs50, Gf50⟩ := id V49
    have hin51 : ¬ ((0 : Int32) < 0 ∨ cl50.slots.size ≤ ((0 : Int32)).toNatClampNeg) := inb_of Sz50 ⟨by decide, by decide⟩
    obtain ⟨T52, h52, X52, e52, W52, st52⟩ := stB X49 hx hZ e49 Ar50 (j := (0 : Int32)) hin51 (g := (mkF m 21 #[.val (.int p0), .val (.int p1), .val (.int p2), .val (.int p3), .val (.int (3 : Int32)), .val (.ref b49), .unset, .unset] [(.int (p1.toInt8.toInt32)), (.int (0 : Int32)), (.ref b49)])) rfl rfl (hb hby at_21)
    have V52 : Arv Z h52 b49 c49 .byte (3 : Int32) [(.int (p1.toInt8.toInt32)), (.int (0 : Int32)), (.int (0 : Int32))] (.int (0 : Int32)) := by
      have q := Arv.set Ar50 q50 Sz50 Nn50 Hs50 Gf50 (fits_nar_byte _) W52 0 rfl (Nat.le_of_ble_eq_true rfl)
      first | exact q | (simp only [own_b2, own_narb2] at q; exact q)
    have N52 := Fr.snoc X52 N0 g_b49
    have O52 := O49.wr W52 g_b49
    have K52 := K49.wr W52 (Or.inr s_b49)
    obtain ⟨cl53, Ar53, q53, Sz53, Nn53, Hs53, Gf53⟩ := id V52
    have hin54 : ¬ ((1 : Int32) < 0 ∨ cl53.slots.size ≤ ((1 : Int32)).toNatClampNeg) := inb_of Sz53 ⟨by decide, by decide⟩
    obtain ⟨T55, h55, X55, e55, W55, st55⟩ := stB X52 hx hZ e52 Ar53 (j := (1 : Int32)) hin54 (g := (mkF m 33 #[.val (.int p0), .val (.int p1), .val (.int p2), .val (.int p3), .val (.int (3 : Int32)), .val (.ref b49), .unset, .unset] [(.int (p2.toInt8.toInt32)), (.int (1 : Int32)), (.ref b49)])) rfl rfl (hb hby at_33)
    have V55 : Arv Z h55 b49 c49 .byte (3 : Int32) [(.int (p1.toInt8.toInt32)), (.int (p2.toInt8.toInt32)), (.int (0 : Int32))] (.int (0 : Int32)) := by
      have q := Arv.set Ar53 q53 Sz53 Nn53 Hs53 Gf53 (fits_nar_byte _) W55 1 rfl (Nat.le_of_ble_eq_true rfl)
      first | exact q | (simp only [own_b2, own_narb2] at q; exact q)
    have N55 := Fr.snoc X55 N52 g_b49
    have O55 := O52.wr W55 g_b49
    have K55 := K52.wr W55 (Or.inr s_b49)
    obtain ⟨cl56, Ar56, q56, Sz56, Nn56, Hs56, Gf56⟩ := id V55
    have hin57 : ¬ ((2 : Int32) < 0 ∨ cl56.slots.size ≤ ((2 : Int32)).toNatClampNeg) := inb_of Sz56 ⟨by decide, by decide⟩
    obtain ⟨T58, h58, X58, e58, W58, st58⟩ := stB X55 hx hZ e55 Ar56 (j := (2 : Int32)) hin57 (g := (mkF m 45 #[.val (.int p0), .val (.int p1), .val (.int p2), .val (.int p3), .val (.int (3 : Int32)), .val (.ref b49), .unset, .unset] [(.int (p3.toInt8.toInt32)), (.int (2 : Int32)), (.ref b49)])) rfl rfl (hb hby at_45)
    have V58 : Arv Z h58 b49 c49 .byte (3 : Int32) [(.int (p1.toInt8.toInt32)), (.int (p2.toInt8.toInt32)), (.int (p3.toInt8.toInt32))] (.int (0 : Int32)) := by
      have q := Arv.set Ar56 q56 Sz56 Nn56 Hs56 Gf56 (fits_nar_byte _) W58 2 rfl (Nat.le_of_ble_eq_true rfl)
      first | exact q | (simp only [own_b2, own_narb2] at q; exact q)
    have N58 := Fr.snoc X58 N55 g_b49
    have O58 := O55.wr W58 g_b49
    have K58 := K55.wr W58 (Or.inr s_b49)
    obtain ⟨_, _, ⟨T59, L59, k59, n59⟩, -, X59, hS59, hg59, ⟨Lc59, hQ59, l59, y59, z59⟩, st59⟩ := callSS X58 hx (y := own_m3) hown (mvT hZ (own_w hw 1 rfl)) (mvT hZ (own_w hw 2 rfl)) (mvT hZ (own_w hw 3 rfl)) (mvT hZ (own_w hw 4 rfl)) (by decide) (backOfS (W := 0) (rm_dn l Z a0 hw [] b49 _ h58 n0 O58 hE  ) hZ (own_w hw 4 rfl) (own_w hw 3 rfl) (by decide) (by decide)) (g := (mkF m 48 #[.val (.int p0), .val (.int p1), .val (.int p2), .val (.int p3), .val (.int (3 : Int32)), .val (.ref b49), .unset, .unset] [(.ref b49)])) rfl (by rw [hml]; rfl) (argsL := [(.ref b49)]) (rest := []) (lenOf pd___B_Lcom_example_attenuation_attenuation_core_Outcome_ rfl) rfl (by show 2 * 0 + _ ≤ _; exact Nat.le_of_eq rfl) (hb hby at_48) (fun _ _ => ⟨rfl, e58, (by decide : 1 + 5 ≤ _), (by decide : 3 + 50 ≤ _)⟩)
    dsimp only [Pt.U, Pt.locs, Pt.cells, Pt.slots] at X59 l59 y59 z59 st59 hQ59 hS59 hg59
    subst l59 y59 z59
    obtain ⟨X59, hS, hZ, hown⟩ := rebS hS (by rw [e58]; exact (Nat.le_trans (Nat.le_trans (Nat.le_trans (Nat.le_trans (Nat.zero_le _) E49.1) (Keep.of_wr W52).1) (Keep.of_wr W55).1) (Keep.of_wr W58).1)) X59 hS59 hg59 hZ hown
    obtain ⟨b59, rfl, N59q, O59, Kc59, g_b59, gs_b59, F59_0, F59_1, F59_2⟩ := hQ59
    have N59 := Fr.app N58 N59q
    have K59 := K58.trans Kc59 (fun x hx => nomatch hx)
    have s_b59 := Nat.le_trans K58.1 gs_b59
    have lt_b59 := F59_0.lt
    obtain ⟨cq60, kq60, q60a, q60b, q60c⟩ := isOf hZ rfl F59_0
    obtain ⟨_, _, ⟨T60, L60, k60, n60⟩, -, X60, ⟨Lc60, hQ60, l60, y60, z60⟩, st60⟩ := X59.virtualBack hx (y := own_m4) (z := own_m4) hown (mvT hZ (own_w hw 37 rfl)) (mvT hZ (own_w hw 38 rfl)) (notFace_of_selects (args := #[]) (mvT hZ (own_w hw 40 rfl))) (mvT hZ (own_w hw 40 rfl)) (mvT hZ (own_w hw 39 rfl)) (by decide) (backOf (W := 0) (rm_gs l Z a0 hw [] b59 a_DONE _ T59.heap n0 O59 hE F59_1 ) hZ (own_w hw 41 rfl) (own_w hw 3 rfl) (by decide) (by decide)) q60a q60c (g := (mkF m 62 #[.val (.int p0), .val (.int p1), .val (.int p2), .val (.int p3), .val (.int (3 : Int32)), .val (.ref b49), .val (.ref b59), .unset] [(.ref b59)])) rfl (by rw [hml]; rfl) (Steps.refl _) (argsL := []) (rest := []) (lenOf pd___Lcom_example_attenuation_attenuation_core_Outcome_Status_ rfl) rfl (by show 2 * 0 + _ ≤ _; exact Nat.le_of_eq rfl) (hb hby at_62) (fun _ _ => ⟨rfl, rfl, (by decide : 6 + 0 ≤ _), (by decide : 53 + 0 ≤ _)⟩)
    dsimp only [Pt.U, Pt.locs, Pt.cells, Pt.slots] at X60 l60 y60 z60 st60 hQ60
    subst l60 y60 z60
    obtain ⟨rfl, N60q, hp60⟩ := hQ60
    have N60 := Fr.app N59 N60q
    obtain ⟨T61, X61, e61, st61⟩ := getS2 X60 hx hZ hown (host := "") (Or.inl (own_w hw 42 rfl)) Via.refl hp60 (S_DONE.ext O59.2) (g := (mkF m 65 #[.val (.int p0), .val (.int p1), .val (.int p2), .val (.int p3), .val (.int (3 : Int32)), .val (.ref b49), .val (.ref b59), .unset] [(.ref a_DONE)])) rfl (hb hby at_65)
    obtain ⟨cq62, kq62, q62a, q62b, q62c⟩ := isOf hZ e61 F59_0
    obtain ⟨_, _, ⟨T62, L62, k62, n62⟩, -, X62, ⟨Lc62, hQ62, l62, y62, z62⟩, st62⟩ := X61.virtualBack hx (y := own_m5) (z := own_m5) hown (mvT hZ (own_w hw 43 rfl)) (mvT hZ (own_w hw 44 rfl)) (notFace_of_selects (args := #[]) (mvT hZ (own_w hw 46 rfl))) (mvT hZ (own_w hw 46 rfl)) (mvT hZ (own_w hw 45 rfl)) (by decide) (backOf (W := 0) (rm_gb l Z a0 hw [] b59 b49 _ T59.heap n0 O59 hE F59_2 ) hZ (own_w hw 47 rfl) (own_w hw 3 rfl) (by decide) (by decide)) q62a q62c (g := (mkF m 75 #[.val (.int p0), .val (.int p1), .val (.int p2), .val (.int p3), .val (.int (3 : Int32)), .val (.ref b49), .val (.ref b59), .unset] [(.ref b59)])) rfl (by rw [hml]; rfl) (Steps.refl _) (argsL := []) (rest := []) (lenOf pd____B rfl) rfl (by show 2 * 0 + _ ≤ _; exact Nat.le_of_eq rfl) (hb hby at_75) (fun _ _ => ⟨rfl, e61, (by decide : 6 + 0 ≤ _), (by decide : 53 + 0 ≤ _)⟩)
    dsimp only [Pt.U, Pt.locs, Pt.cells, Pt.slots] at X62 l62 y62 z62 st62 hQ62
    subst l62 y62 z62
    obtain ⟨rfl, N62q, hp62⟩ := hQ62
    have N62 := Fr.app N60 N62q
    have f63 := (V58.keep Kc59 List.not_mem_nil)
    obtain ⟨cl64, Ar64, q64, Sz64, Nn64, Hs64, Gf64⟩ := id f63
    obtain ⟨cl65, Ar65, q65, Sz65, Nn65, Hs65, Gf65⟩ := id f63
    have hin66 : ¬ ((0 : Int32) < 0 ∨ cl65.slots.size ≤ ((0 : Int32)).toNatClampNeg) := inb_of Sz65 ⟨by decide, by decide⟩
    have hat67 : cl65.slots[((0 : Int32)).toNatClampNeg]? = some (.int (p1.toInt8.toInt32)) := Hs65.at hin66 rfl
    obtain ⟨cl68, Ar68, q68, Sz68, Nn68, Hs68, Gf68⟩ := id f63
    have hin69 : ¬ ((1 : Int32) < 0 ∨ cl68.slots.size ≤ ((1 : Int32)).toNatClampNeg) := inb_of Sz68 ⟨by decide, by decide⟩
    have hat70 : cl68.slots[((1 : Int32)).toNatClampNeg]? = some (.int (p2.toInt8.toInt32)) := Hs68.at hin69 rfl
    obtain ⟨cl71, Ar71, q71, Sz71, Nn71, Hs71, Gf71⟩ := id f63
    have hin72 : ¬ ((2 : Int32) < 0 ∨ cl71.slots.size ≤ ((2 : Int32)).toNatClampNeg) := inb_of Sz71 ⟨by decide, by decide⟩
    have hat73 : cl71.slots[((2 : Int32)).toNatClampNeg]? = some (.int (p3.toInt8.toInt32)) := Hs71.at hin72 rfl
    have k74 : ∀ t, own_At p e below m T62 150 #[.val (.int p0), .val (.int p1), .val (.int p2), .val (.int p3), .val (.int (3 : Int32)), .val (.ref b49), .val (.ref b59), .val (.ref b49)] [(.int (1 : Int32))] t → own_En p e below m s₁ #[(.int p0), (.int p1), (.int p2), (.int p3)] maxLocals t := by
      intro t k
      refine k48 t ?_
      refine XS.istore X0.here hx rfl (hb hby at_3) rfl (l' := #[.val (.int p0), .val (.int p1), .val (.int p2), .val (.int p3), .val (.int (3 : Int32)), .unset, .unset, .unset]) rfl ?_
      show own_At p e below m s₁ 5 #[.val (.int p0), .val (.int p1), .val (.int p2), .val (.int p3), .val (.int (3 : Int32)), .unset, .unset, .unset] [] t
      refine XS.iload X0.here hx rfl (hb hby at_5) rfl ?_
      show own_At p e below m s₁ 7 #[.val (.int p0), .val (.int p1), .val (.int p2), .val (.int p3), .val (.int (3 : Int32)), .unset, .unset, .unset] [(.int (3 : Int32))] t
      refine st49 _ ?_
      show own_At p e below m T49 9 #[.val (.int p0), .val (.int p1), .val (.int p2), .val (.int p3), .val (.int (3 : Int32)), .unset, .unset, .unset] [(.ref b49)] t
      refine XS.astore X49.here hx rfl (hb hby at_9) rfl rfl (l' := #[.val (.int p0), .val (.int p1), .val (.int p2), .val (.int p3), .val (.int (3 : Int32)), .val (.ref b49), .unset, .unset]) rfl ?_
      show own_At p e below m T49 11 #[.val (.int p0), .val (.int p1), .val (.int p2), .val (.int p3), .val (.int (3 : Int32)), .val (.ref b49), .unset, .unset] [] t
      refine XS.iload X49.here hx rfl (hb hby at_11) rfl ?_
      show own_At p e below m T49 13 #[.val (.int p0), .val (.int p1), .val (.int p2), .val (.int p3), .val (.int (3 : Int32)), .val (.ref b49), .unset, .unset] [(.int (3 : Int32))] t
      refine XS.ifNo X49.here hx rfl (hb hby at_13) rfl ((if0 _ _).trans (tlt (by decide : (0 : Int32) < (3 : Int32))).2.2.2) ?_
      show own_At p e below m T49 16 #[.val (.int p0), .val (.int p1), .val (.int p2), .val (.int p3), .val (.int (3 : Int32)), .val (.ref b49), .unset, .unset] [] t
      refine XS.aload X49.here hx rfl (hb hby at_16) rfl rfl ?_
      show own_At p e below m T49 18 #[.val (.int p0), .val (.int p1), .val (.int p2), .val (.int p3), .val (.int (3 : Int32)), .val (.ref b49), .unset, .unset] [(.ref b49)] t
      refine XS.iconst X49.here hx rfl (hb hby at_18) ?_
      show own_At p e below m T49 19 #[.val (.int p0), .val (.int p1), .val (.int p2), .val (.int p3), .val (.int (3 : Int32)), .val (.ref b49), .unset, .unset] [(.int (0 : Int32)), (.ref b49)] t
      refine XS.iloadN X49.here hx rfl (hb hby at_19) rfl ?_
      show own_At p e below m T49 20 #[.val (.int p0), .val (.int p1), .val (.int p2), .val (.int p3), .val (.int (3 : Int32)), .val (.ref b49), .unset, .unset] [(.int p1), (.int (0 : Int32)), (.ref b49)] t
      refine XS.i2b X49.here hx rfl (hb hby at_20) rfl ?_
      show own_At p e below m T49 21 #[.val (.int p0), .val (.int p1), .val (.int p2), .val (.int p3), .val (.int (3 : Int32)), .val (.ref b49), .unset, .unset] [(.int (p1.toInt8.toInt32)), (.int (0 : Int32)), (.ref b49)] t
      refine st52 _ ?_
      show own_At p e below m T52 22 #[.val (.int p0), .val (.int p1), .val (.int p2), .val (.int p3), .val (.int (3 : Int32)), .val (.ref b49), .unset, .unset] [] t
      refine XS.iload X52.here hx rfl (hb hby at_22) rfl ?_
      show own_At p e below m T52 24 #[.val (.int p0), .val (.int p1), .val (.int p2), .val (.int p3), .val (.int (3 : Int32)), .val (.ref b49), .unset, .unset] [(.int (3 : Int32))] t
      refine XS.iconst X52.here hx rfl (hb hby at_24) ?_
      show own_At p e below m T52 25 #[.val (.int p0), .val (.int p1), .val (.int p2), .val (.int p3), .val (.int (3 : Int32)), .val (.ref b49), .unset, .unset] [(.int (1 : Int32)), (.int (3 : Int32))] t
      refine XS.icmpNo X52.here hx rfl (hb hby at_25) rfl (tlt (by decide : (1 : Int32) < (3 : Int32))).2.2.2 ?_
      show own_At p e below m T52 28 #[.val (.int p0), .val (.int p1), .val (.int p2), .val (.int p3), .val (.int (3 : Int32)), .val (.ref b49), .unset, .unset] [] t
      refine XS.aload X52.here hx rfl (hb hby at_28) rfl rfl ?_
      show own_At p e below m T52 30 #[.val (.int p0), .val (.int p1), .val (.int p2), .val (.int p3), .val (.int (3 : Int32)), .val (.ref b49), .unset, .unset] [(.ref b49)] t
      refine XS.iconst X52.here hx rfl (hb hby at_30) ?_
      show own_At p e below m T52 31 #[.val (.int p0), .val (.int p1), .val (.int p2), .val (.int p3), .val (.int (3 : Int32)), .val (.ref b49), .unset, .unset] [(.int (1 : Int32)), (.ref b49)] t
      refine XS.iloadN X52.here hx rfl (hb hby at_31) rfl ?_
      show own_At p e below m T52 32 #[.val (.int p0), .val (.int p1), .val (.int p2), .val (.int p3), .val (.int (3 : Int32)), .val (.ref b49), .unset, .unset] [(.int p2), (.int (1 : Int32)), (.ref b49)] t
      refine XS.i2b X52.here hx rfl (hb hby at_32) rfl ?_
      show own_At p e below m T52 33 #[.val (.int p0), .val (.int p1), .val (.int p2), .val (.int p3), .val (.int (3 : Int32)), .val (.ref b49), .unset, .unset] [(.int (p2.toInt8.toInt32)), (.int (1 : Int32)), (.ref b49)] t
      refine st55 _ ?_
      show own_At p e below m T55 34 #[.val (.int p0), .val (.int p1), .val (.int p2), .val (.int p3), .val (.int (3 : Int32)), .val (.ref b49), .unset, .unset] [] t
      refine XS.iload X55.here hx rfl (hb hby at_34) rfl ?_
      show own_At p e below m T55 36 #[.val (.int p0), .val (.int p1), .val (.int p2), .val (.int p3), .val (.int (3 : Int32)), .val (.ref b49), .unset, .unset] [(.int (3 : Int32))] t
      refine XS.iconst X55.here hx rfl (hb hby at_36) ?_
      show own_At p e below m T55 37 #[.val (.int p0), .val (.int p1), .val (.int p2), .val (.int p3), .val (.int (3 : Int32)), .val (.ref b49), .unset, .unset] [(.int (2 : Int32)), (.int (3 : Int32))] t
      refine XS.icmpNo X55.here hx rfl (hb hby at_37) rfl (tlt (by decide : (2 : Int32) < (3 : Int32))).2.2.2 ?_
      show own_At p e below m T55 40 #[.val (.int p0), .val (.int p1), .val (.int p2), .val (.int p3), .val (.int (3 : Int32)), .val (.ref b49), .unset, .unset] [] t
      refine XS.aload X55.here hx rfl (hb hby at_40) rfl rfl ?_
      show own_At p e below m T55 42 #[.val (.int p0), .val (.int p1), .val (.int p2), .val (.int p3), .val (.int (3 : Int32)), .val (.ref b49), .unset, .unset] [(.ref b49)] t
      refine XS.iconst X55.here hx rfl (hb hby at_42) ?_
      show own_At p e below m T55 43 #[.val (.int p0), .val (.int p1), .val (.int p2), .val (.int p3), .val (.int (3 : Int32)), .val (.ref b49), .unset, .unset] [(.int (2 : Int32)), (.ref b49)] t
      refine XS.iloadN X55.here hx rfl (hb hby at_43) rfl ?_
      show own_At p e below m T55 44 #[.val (.int p0), .val (.int p1), .val (.int p2), .val (.int p3), .val (.int (3 : Int32)), .val (.ref b49), .unset, .unset] [(.int p3), (.int (2 : Int32)), (.ref b49)] t
      refine XS.i2b X55.here hx rfl (hb hby at_44) rfl ?_
      show own_At p e below m T55 45 #[.val (.int p0), .val (.int p1), .val (.int p2), .val (.int p3), .val (.int (3 : Int32)), .val (.ref b49), .unset, .unset] [(.int (p3.toInt8.toInt32)), (.int (2 : Int32)), (.ref b49)] t
      refine st58 _ ?_
      show own_At p e below m T58 46 #[.val (.int p0), .val (.int p1), .val (.int p2), .val (.int p3), .val (.int (3 : Int32)), .val (.ref b49), .unset, .unset] [] t
      refine XS.aload X58.here hx rfl (hb hby at_46) rfl rfl ?_
      show own_At p e below m T58 48 #[.val (.int p0), .val (.int p1), .val (.int p2), .val (.int p3), .val (.int (3 : Int32)), .val (.ref b49), .unset, .unset] [(.ref b49)] t
      refine st59.trans ?_
      show own_At p e below m T59 51 #[.val (.int p0), .val (.int p1), .val (.int p2), .val (.int p3), .val (.int (3 : Int32)), .val (.ref b49), .unset, .unset] [(.ref b59)] t
      refine XS.astore X59.here hx rfl (hb hby at_51) rfl rfl (l' := #[.val (.int p0), .val (.int p1), .val (.int p2), .val (.int p3), .val (.int (3 : Int32)), .val (.ref b49), .val (.ref b59), .unset]) rfl ?_
      show own_At p e below m T59 53 #[.val (.int p0), .val (.int p1), .val (.int p2), .val (.int p3), .val (.int (3 : Int32)), .val (.ref b49), .val (.ref b59), .unset] [] t
      refine XS.aload X59.here hx rfl (hb hby at_53) rfl rfl ?_
      show own_At p e below m T59 55 #[.val (.int p0), .val (.int p1), .val (.int p2), .val (.int p3), .val (.int (3 : Int32)), .val (.ref b49), .val (.ref b59), .unset] [(.ref b59)] t
      refine XS.ifnonnullYes X59.here hx rfl (pc0 := 55) (pc' := 60) rfl (hb hby at_55) rfl (by decide) (by decide) ?_
      show own_At p e below m T59 60 #[.val (.int p0), .val (.int p1), .val (.int p2), .val (.int p3), .val (.int (3 : Int32)), .val (.ref b49), .val (.ref b59), .unset] [] t
      refine XS.aload X59.here hx rfl (hb hby at_60) rfl rfl ?_
      show own_At p e below m T59 62 #[.val (.int p0), .val (.int p1), .val (.int p2), .val (.int p3), .val (.int (3 : Int32)), .val (.ref b49), .val (.ref b59), .unset] [(.ref b59)] t
      refine st60.trans ?_
      show own_At p e below m T60 65 #[.val (.int p0), .val (.int p1), .val (.int p2), .val (.int p3), .val (.int (3 : Int32)), .val (.ref b49), .val (.ref b59), .unset] [(.ref a_DONE)] t
      refine st61 _ ?_
      show own_At p e below m T61 68 #[.val (.int p0), .val (.int p1), .val (.int p2), .val (.int p3), .val (.int (3 : Int32)), .val (.ref b49), .val (.ref b59), .unset] [(.ref a_DONE), (.ref a_DONE)] t
      refine Jvm.RoadKit.acmp (g := (mkF m 68 #[.val (.int p0), .val (.int p1), .val (.int p2), .val (.int p3), .val (.int (3 : Int32)), .val (.ref b49), .val (.ref b59), .unset] [(.ref a_DONE), (.ref a_DONE)])) X61 hx rfl rfl rfl (pc0 := 68) (pc' := 73) (same := true) rfl (hb hby at_68) rfl (decide_eq_true rfl) (by decide) (by decide) ?_
      show own_At p e below m T61 73 #[.val (.int p0), .val (.int p1), .val (.int p2), .val (.int p3), .val (.int (3 : Int32)), .val (.ref b49), .val (.ref b59), .unset] [] t
      refine XS.aload X61.here hx rfl (hb hby at_73) rfl rfl ?_
      show own_At p e below m T61 75 #[.val (.int p0), .val (.int p1), .val (.int p2), .val (.int p3), .val (.int (3 : Int32)), .val (.ref b49), .val (.ref b59), .unset] [(.ref b59)] t
      refine st62.trans ?_
      show own_At p e below m T62 78 #[.val (.int p0), .val (.int p1), .val (.int p2), .val (.int p3), .val (.int (3 : Int32)), .val (.ref b49), .val (.ref b59), .unset] [(.ref b49)] t
      refine XS.astore X62.here hx rfl (hb hby at_78) rfl rfl (l' := #[.val (.int p0), .val (.int p1), .val (.int p2), .val (.int p3), .val (.int (3 : Int32)), .val (.ref b49), .val (.ref b59), .val (.ref b49)]) rfl ?_
      show own_At p e below m T62 80 #[.val (.int p0), .val (.int p1), .val (.int p2), .val (.int p3), .val (.int (3 : Int32)), .val (.ref b49), .val (.ref b59), .val (.ref b49)] [] t
      refine XS.aload X62.here hx rfl (hb hby at_80) rfl rfl ?_
      show own_At p e below m T62 82 #[.val (.int p0), .val (.int p1), .val (.int p2), .val (.int p3), .val (.int (3 : Int32)), .val (.ref b49), .val (.ref b59), .val (.ref b49)] [(.ref b49)] t
      refine XS.aload X62.here hx rfl (hb hby at_82) rfl rfl ?_
      show own_At p e below m T62 84 #[.val (.int p0), .val (.int p1), .val (.int p2), .val (.int p3), .val (.int (3 : Int32)), .val (.ref b49), .val (.ref b59), .val (.ref b49)] [(.ref b49), (.ref b49)] t
      refine Jvm.RoadKit.acmp (g := (mkF m 84 #[.val (.int p0), .val (.int p1), .val (.int p2), .val (.int p3), .val (.int (3 : Int32)), .val (.ref b49), .val (.ref b59), .val (.ref b49)] [(.ref b49), (.ref b49)])) X62 hx rfl rfl rfl (pc0 := 84) (pc' := 89) (same := true) rfl (hb hby at_84) rfl (decide_eq_true rfl) (by decide) (by decide) ?_
      show own_At p e below m T62 89 #[.val (.int p0), .val (.int p1), .val (.int p2), .val (.int p3), .val (.int (3 : Int32)), .val (.ref b49), .val (.ref b59), .val (.ref b49)] [] t
      refine XS.aload X62.here hx rfl (hb hby at_89) rfl rfl ?_
      show own_At p e below m T62 91 #[.val (.int p0), .val (.int p1), .val (.int p2), .val (.int p3), .val (.int (3 : Int32)), .val (.ref b49), .val (.ref b59), .val (.ref b49)] [(.ref b49)] t
      refine X62.arraylength hx (by rw [hp62]; exact Ar64.1) (State.isArrayOf_alike hZ.alike Ar64.2.1) (g := (mkF m 91 #[.val (.int p0), .val (.int p1), .val (.int p2), .val (.int p3), .val (.int (3 : Int32)), .val (.ref b49), .val (.ref b59), .val (.ref b49)] [(.ref b49)])) rfl rfl (hb hby at_91) _ ?_
      rw [len_of Sz64 Nn64]
      show own_At p e below m T62 92 #[.val (.int p0), .val (.int p1), .val (.int p2), .val (.int p3), .val (.int (3 : Int32)), .val (.ref b49), .val (.ref b59), .val (.ref b49)] [(.int (3 : Int32))] t
      refine XS.iload X62.here hx rfl (hb hby at_92) rfl ?_
      show own_At p e below m T62 94 #[.val (.int p0), .val (.int p1), .val (.int p2), .val (.int p3), .val (.int (3 : Int32)), .val (.ref b49), .val (.ref b59), .val (.ref b49)] [(.int (3 : Int32)), (.int (3 : Int32))] t
      refine XS.icmpYes X62.here hx rfl (pc0 := 94) (pc' := 99) rfl (hb hby at_94) rfl (teq (by decide : (3 : Int32) = (3 : Int32))).1 (by decide) (by decide) ?_
      show own_At p e below m T62 99 #[.val (.int p0), .val (.int p1), .val (.int p2), .val (.int p3), .val (.int (3 : Int32)), .val (.ref b49), .val (.ref b59), .val (.ref b49)] [] t
      refine XS.iload X62.here hx rfl (hb hby at_99) rfl ?_
      show own_At p e below m T62 101 #[.val (.int p0), .val (.int p1), .val (.int p2), .val (.int p3), .val (.int (3 : Int32)), .val (.ref b49), .val (.ref b59), .val (.ref b49)] [(.int (3 : Int32))] t
      refine XS.ifNo X62.here hx rfl (hb hby at_101) rfl ((if0 _ _).trans (tlt (by decide : (0 : Int32) < (3 : Int32))).2.2.2) ?_
      show own_At p e below m T62 104 #[.val (.int p0), .val (.int p1), .val (.int p2), .val (.int p3), .val (.int (3 : Int32)), .val (.ref b49), .val (.ref b59), .val (.ref b49)] [] t
      refine XS.aload X62.here hx rfl (hb hby at_104) rfl rfl ?_
      show own_At p e below m T62 106 #[.val (.int p0), .val (.int p1), .val (.int p2), .val (.int p3), .val (.int (3 : Int32)), .val (.ref b49), .val (.ref b59), .val (.ref b49)] [(.ref b49)] t
      refine XS.iconst X62.here hx rfl (hb hby at_106) ?_
      show own_At p e below m T62 107 #[.val (.int p0), .val (.int p1), .val (.int p2), .val (.int p3), .val (.int (3 : Int32)), .val (.ref b49), .val (.ref b59), .val (.ref b49)] [(.int (0 : Int32)), (.ref b49)] t
      refine X62.baloadBytes hx (j := (0 : Int32)) (v := (.int (p1.toInt8.toInt32))) (by rw [hp62]; exact Ar65.1) (State.isArrayOf_alike hZ.alike Ar65.2.1) Ar65.2.2 hin66 hat67 (g := (mkF m 107 #[.val (.int p0), .val (.int p1), .val (.int p2), .val (.int p3), .val (.int (3 : Int32)), .val (.ref b49), .val (.ref b59), .val (.ref b49)] [(.int (0 : Int32)), (.ref b49)])) rfl rfl (hb hby at_107) _ ?_
      show own_At p e below m T62 108 #[.val (.int p0), .val (.int p1), .val (.int p2), .val (.int p3), .val (.int (3 : Int32)), .val (.ref b49), .val (.ref b59), .val (.ref b49)] [(.int (p1.toInt8.toInt32))] t
      refine XS.iloadN X62.here hx rfl (hb hby at_108) rfl ?_
      show own_At p e below m T62 109 #[.val (.int p0), .val (.int p1), .val (.int p2), .val (.int p3), .val (.int (3 : Int32)), .val (.ref b49), .val (.ref b59), .val (.ref b49)] [(.int p1), (.int (p1.toInt8.toInt32))] t
      refine XS.i2b X62.here hx rfl (hb hby at_109) rfl ?_
      show own_At p e below m T62 110 #[.val (.int p0), .val (.int p1), .val (.int p2), .val (.int p3), .val (.int (3 : Int32)), .val (.ref b49), .val (.ref b59), .val (.ref b49)] [(.int (p1.toInt8.toInt32)), (.int (p1.toInt8.toInt32))] t
      refine XS.icmpYes X62.here hx rfl (pc0 := 110) (pc' := 115) rfl (hb hby at_110) rfl (teq (rfl : (p1.toInt8.toInt32) = (p1.toInt8.toInt32))).1 (by decide) (by decide) ?_
      show own_At p e below m T62 115 #[.val (.int p0), .val (.int p1), .val (.int p2), .val (.int p3), .val (.int (3 : Int32)), .val (.ref b49), .val (.ref b59), .val (.ref b49)] [] t
      refine XS.iload X62.here hx rfl (hb hby at_115) rfl ?_
      show own_At p e below m T62 117 #[.val (.int p0), .val (.int p1), .val (.int p2), .val (.int p3), .val (.int (3 : Int32)), .val (.ref b49), .val (.ref b59), .val (.ref b49)] [(.int (3 : Int32))] t
      refine XS.iconst X62.here hx rfl (hb hby at_117) ?_
      show own_At p e below m T62 118 #[.val (.int p0), .val (.int p1), .val (.int p2), .val (.int p3), .val (.int (3 : Int32)), .val (.ref b49), .val (.ref b59), .val (.ref b49)] [(.int (1 : Int32)), (.int (3 : Int32))] t
      refine XS.icmpNo X62.here hx rfl (hb hby at_118) rfl (tlt (by decide : (1 : Int32) < (3 : Int32))).2.2.2 ?_
      show own_At p e below m T62 121 #[.val (.int p0), .val (.int p1), .val (.int p2), .val (.int p3), .val (.int (3 : Int32)), .val (.ref b49), .val (.ref b59), .val (.ref b49)] [] t
      refine XS.aload X62.here hx rfl (hb hby at_121) rfl rfl ?_
      show own_At p e below m T62 123 #[.val (.int p0), .val (.int p1), .val (.int p2), .val (.int p3), .val (.int (3 : Int32)), .val (.ref b49), .val (.ref b59), .val (.ref b49)] [(.ref b49)] t
      refine XS.iconst X62.here hx rfl (hb hby at_123) ?_
      show own_At p e below m T62 124 #[.val (.int p0), .val (.int p1), .val (.int p2), .val (.int p3), .val (.int (3 : Int32)), .val (.ref b49), .val (.ref b59), .val (.ref b49)] [(.int (1 : Int32)), (.ref b49)] t
      refine X62.baloadBytes hx (j := (1 : Int32)) (v := (.int (p2.toInt8.toInt32))) (by rw [hp62]; exact Ar68.1) (State.isArrayOf_alike hZ.alike Ar68.2.1) Ar68.2.2 hin69 hat70 (g := (mkF m 124 #[.val (.int p0), .val (.int p1), .val (.int p2), .val (.int p3), .val (.int (3 : Int32)), .val (.ref b49), .val (.ref b59), .val (.ref b49)] [(.int (1 : Int32)), (.ref b49)])) rfl rfl (hb hby at_124) _ ?_
      show own_At p e below m T62 125 #[.val (.int p0), .val (.int p1), .val (.int p2), .val (.int p3), .val (.int (3 : Int32)), .val (.ref b49), .val (.ref b59), .val (.ref b49)] [(.int (p2.toInt8.toInt32))] t
      refine XS.iloadN X62.here hx rfl (hb hby at_125) rfl ?_
      show own_At p e below m T62 126 #[.val (.int p0), .val (.int p1), .val (.int p2), .val (.int p3), .val (.int (3 : Int32)), .val (.ref b49), .val (.ref b59), .val (.ref b49)] [(.int p2), (.int (p2.toInt8.toInt32))] t
      refine XS.i2b X62.here hx rfl (hb hby at_126) rfl ?_
      show own_At p e below m T62 127 #[.val (.int p0), .val (.int p1), .val (.int p2), .val (.int p3), .val (.int (3 : Int32)), .val (.ref b49), .val (.ref b59), .val (.ref b49)] [(.int (p2.toInt8.toInt32)), (.int (p2.toInt8.toInt32))] t
      refine XS.icmpYes X62.here hx rfl (pc0 := 127) (pc' := 132) rfl (hb hby at_127) rfl (teq (rfl : (p2.toInt8.toInt32) = (p2.toInt8.toInt32))).1 (by decide) (by decide) ?_
      show own_At p e below m T62 132 #[.val (.int p0), .val (.int p1), .val (.int p2), .val (.int p3), .val (.int (3 : Int32)), .val (.ref b49), .val (.ref b59), .val (.ref b49)] [] t
      refine XS.iload X62.here hx rfl (hb hby at_132) rfl ?_
      show own_At p e below m T62 134 #[.val (.int p0), .val (.int p1), .val (.int p2), .val (.int p3), .val (.int (3 : Int32)), .val (.ref b49), .val (.ref b59), .val (.ref b49)] [(.int (3 : Int32))] t
      refine XS.iconst X62.here hx rfl (hb hby at_134) ?_
      show own_At p e below m T62 135 #[.val (.int p0), .val (.int p1), .val (.int p2), .val (.int p3), .val (.int (3 : Int32)), .val (.ref b49), .val (.ref b59), .val (.ref b49)] [(.int (2 : Int32)), (.int (3 : Int32))] t
      refine XS.icmpNo X62.here hx rfl (hb hby at_135) rfl (tlt (by decide : (2 : Int32) < (3 : Int32))).2.2.2 ?_
      show own_At p e below m T62 138 #[.val (.int p0), .val (.int p1), .val (.int p2), .val (.int p3), .val (.int (3 : Int32)), .val (.ref b49), .val (.ref b59), .val (.ref b49)] [] t
      refine XS.aload X62.here hx rfl (hb hby at_138) rfl rfl ?_
      show own_At p e below m T62 140 #[.val (.int p0), .val (.int p1), .val (.int p2), .val (.int p3), .val (.int (3 : Int32)), .val (.ref b49), .val (.ref b59), .val (.ref b49)] [(.ref b49)] t
      refine XS.iconst X62.here hx rfl (hb hby at_140) ?_
      show own_At p e below m T62 141 #[.val (.int p0), .val (.int p1), .val (.int p2), .val (.int p3), .val (.int (3 : Int32)), .val (.ref b49), .val (.ref b59), .val (.ref b49)] [(.int (2 : Int32)), (.ref b49)] t
      refine X62.baloadBytes hx (j := (2 : Int32)) (v := (.int (p3.toInt8.toInt32))) (by rw [hp62]; exact Ar71.1) (State.isArrayOf_alike hZ.alike Ar71.2.1) Ar71.2.2 hin72 hat73 (g := (mkF m 141 #[.val (.int p0), .val (.int p1), .val (.int p2), .val (.int p3), .val (.int (3 : Int32)), .val (.ref b49), .val (.ref b59), .val (.ref b49)] [(.int (2 : Int32)), (.ref b49)])) rfl rfl (hb hby at_141) _ ?_
      show own_At p e below m T62 142 #[.val (.int p0), .val (.int p1), .val (.int p2), .val (.int p3), .val (.int (3 : Int32)), .val (.ref b49), .val (.ref b59), .val (.ref b49)] [(.int (p3.toInt8.toInt32))] t
      refine XS.iloadN X62.here hx rfl (hb hby at_142) rfl ?_
      show own_At p e below m T62 143 #[.val (.int p0), .val (.int p1), .val (.int p2), .val (.int p3), .val (.int (3 : Int32)), .val (.ref b49), .val (.ref b59), .val (.ref b49)] [(.int p3), (.int (p3.toInt8.toInt32))] t
      refine XS.i2b X62.here hx rfl (hb hby at_143) rfl ?_
      show own_At p e below m T62 144 #[.val (.int p0), .val (.int p1), .val (.int p2), .val (.int p3), .val (.int (3 : Int32)), .val (.ref b49), .val (.ref b59), .val (.ref b49)] [(.int (p3.toInt8.toInt32)), (.int (p3.toInt8.toInt32))] t
      refine XS.icmpYes X62.here hx rfl (pc0 := 144) (pc' := 149) rfl (hb hby at_144) rfl (teq (rfl : (p3.toInt8.toInt32) = (p3.toInt8.toInt32))).1 (by decide) (by decide) ?_
      show own_At p e below m T62 149 #[.val (.int p0), .val (.int p1), .val (.int p2), .val (.int p3), .val (.int (3 : Int32)), .val (.ref b49), .val (.ref b59), .val (.ref b49)] [] t
      refine XS.iconst X62.here hx rfl (hb hby at_149) ?_
      show own_At p e below m T62 150 #[.val (.int p0), .val (.int p1), .val (.int p2), .val (.int p3), .val (.int (3 : Int32)), .val (.ref b49), .val (.ref b59), .val (.ref b49)] [(.int (1 : Int32))] t
      exact k
    obtain ⟨fs, hr, hrun, hended, hRW⟩ := X62.leaveW hS (by rw [hp62]; exact (Nat.le_refl _)) (v := some (.int (1 : Int32))) (fun h => by rw [Bd.returns] at h; cases h)
    refine hNG ⟨_, _, k74 _ ?_, hrun, hended, _, _, rfl, ?_, hRW.1, hRW.2.1, hRW.2.2.1, hRW.2.2.2.mono (by decide) (by decide)⟩
    · exact retN X62 hx (t := .boolean) Bd.returns (by simp) (hb hby at_150) hr
    · show Q_law Z p0 p1 p2 p3 a_DONE h0 n0 _ T62.heap _
      rw [hp62]
      exact ⟨rfl, N62⟩
set_option maxRecDepth 65536 in
set_option maxHeartbeats 40000000 in
theorem comes_1 {Post : Tables → Env → Array Value → State → Outcome → State → Prop} (hpost : ∀ tb e args s v u, (limb_1_1.after args s (.returned v) u = true ∧ limb_1_2.after args s (.returned v) u = true ∧ True) → ReturnedEndW s (.returned v) u (Jvm.fieldLocs frame_1_writes args s ++ Jvm.arrayLocs frame_1_arrays args s ++ Jvm.staticLocs frame_1_statics s) 16 2176 → Post tb e args s (.returned v) u) :
    ArmFor flags0 classFile x code maxLocals ret World_1 tables_1 room_1 Calls_1 rest_1 Pre_1 Post := by
  intro l hfl _ _ p e ha hc hk s m args below hf hA hF happ hP
  obtain ⟨hcalls, hrest, hpre⟩ := hP
  obtain ⟨-, -, -, hnamed, -, -, -, hat⟩ := (Spec.applies_iff hf).mp happ
  obtain ⟨hg, hn⟩ := and_e (Cond.before_iff.mp (show (Jvm.Cond.and given_1 narrow_1).before args s = true from hpre))
  obtain ⟨g0a, g0b⟩ := and_e hg
  obtain ⟨g1a, g1b⟩ := and_e g0b
  obtain ⟨g2a, g2b⟩ := and_e g1b
  obtain ⟨g3a, g3b⟩ := and_e g2b
  obtain ⟨w0, w1, w2, w3, rfl⟩ : ∃ w0 w1 w2 w3 : Value, args = #[w0, w1, w2, w3] := by
    have hs : args.size = 4 := by simpa [Cond.value, given_1] using g0a
    obtain ⟨L⟩ := args
    match L, hs with
    | [w0, w1, w2, w3], _ => exact ⟨w0, w1, w2, w3, rfl⟩
  have hw := fun d (hd : d ∈ tables_1) => atoms_spec (ws := Jvm.Cond.code x code maxLocals ret :: tables_1) hat d (List.mem_cons_of_mem _ hd)
  have hfit : Fit s := fun {y c} hc i hi => by
    obtain ⟨ha, rfl⟩ := Array.getElem?_eq_some_iff.mp hc
    have q := List.all_eq_true.mp ((Array.all_eq_true_iff_forall_mem.mp hF) _ (Array.getElem_mem ha)) i (List.mem_range.mpr hi)
    simpa [Array.getElem?_eq_getElem hi] using q
  obtain ⟨i0, ei0⟩ := is_v g1a
  obtain rfl : w0 = (.int i0) := Option.some.inj ei0
  obtain ⟨i1, ei1⟩ := is_v g2a
  obtain rfl : w1 = (.int i1) := Option.some.inj ei1
  obtain ⟨i2, ei2⟩ := is_v g3a
  obtain rfl : w2 = (.int i2) := Option.some.inj ei2
  obtain ⟨i3, ei3⟩ := is_v g3b
  obtain rfl : w3 = (.int i3) := Option.some.inj ei3
  obtain ⟨a_DONE, v_a_DONE⟩ := exa_v hn
  have S_DONE := Sta.start v_a_DONE (Or.inr ⟨(own_w hw 8 rfl), (own_w hw 9 rfl)⟩)
  have E_DONE := Exa.start v_a_DONE hn
  obtain ⟨n, o, h1, h2, h3, _, L, rfl, ⟨rfl, N⟩, hq⟩ := rm_law l s _ hw tables_1 i0 i1 i2 i3 a_DONE s.heap s.heap.size (Old.start s) ⟨S_DONE, E_DONE⟩  p e ha hc hk s m _ below hf ((Spec.applies_iff_loose hf).mp happ).1 ⟨rfl, State.Warmed39.refl s, rfl⟩ trivial
  refine ⟨n, _, h1, h2, h3, hpost _ _ _ _ _ _ ⟨Cond.after_iff.mpr rfl, Cond.after_iff.mpr (eq_i res_at (Term.int_eval (1)) rfl), trivial⟩ ⟨hq.1, hq.2.1, hq.2.2.1, (hq.2.2.2.sift fun y hy => Or.inr (N y hy)).mono (by decide) (by decide)⟩⟩
theorem main_1_1 : Claimed_1_1 := comes_1 fun _ _ _ _ _ _ h hF => ⟨h.1, hF⟩
theorem main_1_2 : Claimed_1_2 := comes_1 fun _ _ _ _ _ _ h hF => ⟨h.2.1, hF⟩
end Jvm.Pilot.@@N@@
namespace Jvm.Pilot.@@N@@
open Jvm Jvm.ClassFile Sem Op Lib Jvm.Free Jvm.Stand Jvm.Pilot.@@N@@.Jvm.D
/-! MADE BY PROGRAM (witnessworld.py) out of the Statement's table words and the real class files: 18 classes; the members and pool entries that the words name. The judged class is class 1, her method 1. -/
namespace start1
open Jvm.ClassFile
def u (s : String) : CpInfo := .utf8 (stringToUtf16 s)
/-- a pool by its gaps: so many unusable entries, then the entry; so many at the end -/
def gap : Nat → List CpInfo → List CpInfo
  | 0, r => r
  | n + 1, r => .unusable :: gap n r
def poolList (es : List (Nat × CpInfo)) (last : Nat) : List CpInfo := es.foldr (fun e r => gap e.1 (e.2 :: r)) (gap last [])
def pool (es : List (Nat × CpInfo)) (last : Nat) : Array CpInfo := ⟨poolList es last⟩
def fileOf (pool : Array CpInfo) (this : Nat) (attrs : Array Attribute := #[]) (ms : Array MethodInfo := #[]) (fl : Nat := 33) (sup : Nat := 0) (ifs : Array Nat := #[]) (fds : Array FieldInfo := #[]) : ClassFile where
  minorVersion := 0
  majorVersion := 65
  constantPool := pool
  accessFlags := fl
  thisClass := this
  superClass := sup
  interfaces := ifs
  fields := fds
  methods := ms
  attributes := attrs
def plain (name : String) (sup : Option ClassId) : Class where
  name := name
  kind := .ordinary
  loader := none
  accessFlags := 33
  super := sup
  interfaces := #[]
  cf := none
  fields := #[]
  methods := #[]
  instanceTypes := #[]
  staticTypes := #[]
  resolved := #[]
  callSites := []
  init := .initialized
  statics := none
  mirror := none

def pool0 : Array CpInfo := pool [(5, u "<init>"), (0, u "()V"), (1, .class_ 10), (1, u "java/lang/Object")] 113

def k0c0 : Code := { maxStack := 0, maxLocals := 1, code := object_method_1_code, exceptionTable := #[], attributes := #[] }
def k0m0 : Method := { name := "<init>", desc := "()V", sig := { parameters := [], returnType := none }, accessFlags := 1, code := some k0c0 }
/-- java/lang/Object -/
def k0 : Class := { plain "java/lang/Object" none with
  accessFlags := 33
  interfaces := #[]
  cf := some (fileOf pool0 8 #[] #[{ accessFlags := 1, nameIndex := 5, descriptorIndex := 6, attributes := #[] }] 33 0 #[] #[])
  fields := #[]
  methods := #[k0m0]
  instanceTypes := #[]
  staticTypes := #[]
  resolved := Array.replicate 124 none
  statics := none }

def pool1 : Array CpInfo := pool [(2, .class_ 4), (1, u "java/lang/Object"), (0, u "<init>"), (0, u "()V"), (0, .methodref 8 9), (0, .class_ 10), (0, .nameAndType 11 12), (0, u "com/example/attenuation/attenuation/core/Outcome"), (0, u "done"), (0, u "([B)Lcom/example/attenuation/attenuation/core/Outcome;"), (0, .methodref 8 14), (0, .nameAndType 15 16), (0, u "status"), (0, u "()Lcom/example/attenuation/attenuation/core/Outcome$Status;"), (0, .fieldref 18 19), (0, .class_ 20), (0, .nameAndType 21 22), (0, u "com/example/attenuation/attenuation/core/Outcome$Status"), (0, u "DONE"), (0, u "Lcom/example/attenuation/attenuation/core/Outcome$Status;"), (0, .methodref 8 24), (0, .nameAndType 25 26), (0, u "body"), (0, u "()[B"), (0, .class_ 28), (0, u "com/example/attenuation/attenuation/core/OutcomeDonePinLaw"), (2, u "law"), (0, u "(IIII)Z")] 7

def k1m0 : Method := { name := "<init>", desc := "()V", sig := { parameters := [], returnType := none }, accessFlags := 2, code := none }
def k1c1 : Code := { maxStack := 3, maxLocals := 8, code := code, exceptionTable := #[], attributes := #[] }
def k1m1 : Method := { name := "law", desc := "(IIII)Z", sig := { parameters := [.int, .int, .int, .int], returnType := some .boolean }, accessFlags := 9, code := some k1c1 }
/-- com/example/attenuation/attenuation/core/OutcomeDonePinLaw -/
def k1 : Class := { plain "com/example/attenuation/attenuation/core/OutcomeDonePinLaw" (some 0) with
  accessFlags := 49
  interfaces := #[]
  cf := some (fileOf pool1 27 #[] #[{ accessFlags := 2, nameIndex := 5, descriptorIndex := 6, attributes := #[] }, { accessFlags := 9, nameIndex := 31, descriptorIndex := 32, attributes := #[] }] 49 2 #[] #[])
  fields := #[]
  methods := #[k1m0, k1m1]
  instanceTypes := #[]
  staticTypes := #[]
  resolved := Array.replicate 40 none
  statics := none }

def pool2 : Array CpInfo := pool [(1, .methodref 2 3), (0, .class_ 4), (0, .nameAndType 5 6), (0, u "java/lang/Object"), (0, u "<init>"), (0, u "()V"), (0, .class_ 8), (0, u "java/lang/Record")] 13

def k2c0 : Code := { maxStack := 1, maxLocals := 1, code := jdk_30_method_1_code, exceptionTable := #[], attributes := #[] }
def k2m0 : Method := { name := "<init>", desc := "()V", sig := { parameters := [], returnType := none }, accessFlags := 4, code := some k2c0 }
/-- java/lang/Record -/
def k2 : Class := { plain "java/lang/Record" (some 0) with
  accessFlags := 1057
  interfaces := #[]
  cf := some (fileOf pool2 7 #[] #[{ accessFlags := 4, nameIndex := 5, descriptorIndex := 6, attributes := #[] }] 1057 2 #[] #[])
  fields := #[]
  methods := #[k2m0]
  instanceTypes := #[]
  staticTypes := #[]
  resolved := Array.replicate 22 none
  statics := none }

def pool3 : Array CpInfo := pool [(1, .methodref 2 3), (0, .class_ 4), (0, .nameAndType 5 6), (0, u "java/lang/Record"), (0, u "<init>"), (0, u "()V"), (0, .string 8), (0, u "status"), (0, .methodref 10 11), (0, .class_ 12), (0, .nameAndType 13 14), (0, u "java/util/Objects"), (0, u "requireNonNull"), (0, u "(Ljava/lang/Object;Ljava/lang/String;)Ljava/lang/Object;"), (0, .string 16), (0, u "body"), (0, .fieldref 18 19), (0, .class_ 20), (0, .nameAndType 8 21), (0, u "com/example/attenuation/attenuation/core/Outcome"), (0, u "Lcom/example/attenuation/attenuation/core/Outcome$Status;"), (0, .fieldref 18 23), (0, .nameAndType 16 24), (0, u "[B"), (0, .fieldref 26 27), (0, .class_ 28), (0, .nameAndType 29 21), (0, u "com/example/attenuation/attenuation/core/Outcome$Status"), (0, u "DONE"), (0, .methodref 18 31), (0, .nameAndType 5 32), (0, u "(Lcom/example/attenuation/attenuation/core/Outcome$Status;[B)V"), (28, u "([B)Lcom/example/attenuation/attenuation/core/Outcome;"), (87, u "WHY_LACKING"), (0, u "Ljava/util/regex/Pattern;"), (60, u "LACKING"), (0, u "Ljava/lang/String;"), (1, u "APP_SEPARATOR"), (0, u "REDUCED_BY"), (2, u "OWN_BEHALF"), (5, u "done"), (11, u "()Lcom/example/attenuation/attenuation/core/Outcome$Status;"), (0, u "()[B")] 44

def k3c0 : Code := { maxStack := 2, maxLocals := 3, code := prog_16_method_1_code, exceptionTable := #[], attributes := #[] }
def k3m0 : Method := { name := "<init>", desc := "(Lcom/example/attenuation/attenuation/core/Outcome$Status;[B)V", sig := { parameters := [(.object "com/example/attenuation/attenuation/core/Outcome$Status"), (.array .byte)], returnType := none }, accessFlags := 1, code := some k3c0 }
def k3c1 : Code := { maxStack := 4, maxLocals := 1, code := prog_16_method_2_code, exceptionTable := #[], attributes := #[] }
def k3m1 : Method := { name := "done", desc := "([B)Lcom/example/attenuation/attenuation/core/Outcome;", sig := { parameters := [(.array .byte)], returnType := some (.object "com/example/attenuation/attenuation/core/Outcome") }, accessFlags := 9, code := some k3c1 }
def k3c2 : Code := { maxStack := 1, maxLocals := 1, code := prog_16_method_15_code, exceptionTable := #[], attributes := #[] }
def k3m2 : Method := { name := "status", desc := "()Lcom/example/attenuation/attenuation/core/Outcome$Status;", sig := { parameters := [], returnType := some (.object "com/example/attenuation/attenuation/core/Outcome$Status") }, accessFlags := 1, code := some k3c2 }
def k3c3 : Code := { maxStack := 1, maxLocals := 1, code := prog_16_method_16_code, exceptionTable := #[], attributes := #[] }
def k3m3 : Method := { name := "body", desc := "()[B", sig := { parameters := [], returnType := some (.array .byte) }, accessFlags := 1, code := some k3c3 }
/-- com/example/attenuation/attenuation/core/Outcome -/
def k3 : Class := { plain "com/example/attenuation/attenuation/core/Outcome" (some 2) with
  accessFlags := 49
  interfaces := #[]
  cf := some (fileOf pool3 18 #[.nestMembers #[26]] #[{ accessFlags := 1, nameIndex := 5, descriptorIndex := 32, attributes := #[] }, { accessFlags := 9, nameIndex := 224, descriptorIndex := 61, attributes := #[] }, { accessFlags := 1, nameIndex := 8, descriptorIndex := 236, attributes := #[] }, { accessFlags := 1, nameIndex := 16, descriptorIndex := 237, attributes := #[] }] 49 2 #[] #[{ accessFlags := 18, nameIndex := 8, descriptorIndex := 21, attributes := #[] }, { accessFlags := 18, nameIndex := 16, descriptorIndex := 24, attributes := #[] }, { accessFlags := 26, nameIndex := 211, descriptorIndex := 212, attributes := #[] }, { accessFlags := 26, nameIndex := 214, descriptorIndex := 212, attributes := #[] }, { accessFlags := 26, nameIndex := 215, descriptorIndex := 212, attributes := #[] }, { accessFlags := 26, nameIndex := 218, descriptorIndex := 212, attributes := #[] }, { accessFlags := 26, nameIndex := 149, descriptorIndex := 150, attributes := #[] }])
  fields := #[{ name := "status", type := (.object "com/example/attenuation/attenuation/core/Outcome$Status"), accessFlags := 18, slot := 0, constantValue := 0 }, { name := "body", type := (.array .byte), accessFlags := 18, slot := 1, constantValue := 0 }, { name := "LACKING", type := (.object "java/lang/String"), accessFlags := 26, slot := 0, constantValue := 0 }, { name := "APP_SEPARATOR", type := (.object "java/lang/String"), accessFlags := 26, slot := 1, constantValue := 0 }, { name := "REDUCED_BY", type := (.object "java/lang/String"), accessFlags := 26, slot := 2, constantValue := 0 }, { name := "OWN_BEHALF", type := (.object "java/lang/String"), accessFlags := 26, slot := 3, constantValue := 0 }, { name := "WHY_LACKING", type := (.object "java/util/regex/Pattern"), accessFlags := 26, slot := 4, constantValue := 0 }]
  methods := #[k3m0, k3m1, k3m2, k3m3]
  instanceTypes := #[(.object "com/example/attenuation/attenuation/core/Outcome$Status"), (.array .byte)]
  staticTypes := #[(.object "java/lang/String"), (.object "java/lang/String"), (.object "java/lang/String"), (.object "java/lang/String"), (.object "java/util/regex/Pattern")]
  resolved := Array.replicate 282 none
  statics := none }

def pool4 : Array CpInfo := pool [(1, .class_ 2), (0, u "java/lang/constant/Constable"), (0, .class_ 4), (0, u "java/lang/Object")] 6

/-- java/lang/constant/Constable -/
def k4 : Class := { plain "java/lang/constant/Constable" (some 0) with
  accessFlags := 1537
  interfaces := #[]
  cf := some (fileOf pool4 1 #[] #[] 1537 3 #[] #[])
  fields := #[]
  methods := #[]
  instanceTypes := #[]
  staticTypes := #[]
  resolved := Array.replicate 11 none
  statics := none }

def pool5 : Array CpInfo := pool [(1, .class_ 2), (0, u "java/lang/Comparable"), (0, .class_ 4), (0, u "java/lang/Object")] 7

/-- java/lang/Comparable -/
def k5 : Class := { plain "java/lang/Comparable" (some 0) with
  accessFlags := 1537
  interfaces := #[]
  cf := some (fileOf pool5 1 #[] #[] 1537 3 #[] #[])
  fields := #[]
  methods := #[]
  instanceTypes := #[]
  staticTypes := #[]
  resolved := Array.replicate 12 none
  statics := none }

def pool6 : Array CpInfo := pool [(1, .class_ 2), (0, u "java/io/Serializable"), (0, .class_ 4), (0, u "java/lang/Object")] 2

/-- java/io/Serializable -/
def k6 : Class := { plain "java/io/Serializable" (some 0) with
  accessFlags := 1537
  interfaces := #[]
  cf := some (fileOf pool6 1 #[] #[] 1537 3 #[] #[])
  fields := #[]
  methods := #[]
  instanceTypes := #[]
  staticTypes := #[]
  resolved := Array.replicate 7 none
  statics := none }

def pool7 : Array CpInfo := pool [(2, .class_ 4), (1, u "java/lang/Enum"), (0, u "name"), (0, u "Ljava/lang/String;"), (2, u "ordinal"), (0, u "I"), (1, .class_ 14), (1, u "java/lang/Object"), (4, u "hash"), (86, .class_ 108), (1, u "java/lang/Enum$EnumDesc"), (2, .class_ 112), (0, u "java/lang/constant/Constable"), (0, .class_ 114), (0, u "java/lang/Comparable"), (0, .class_ 116), (0, u "java/io/Serializable")] 87

/-- java/lang/Enum -/
def k7 : Class := { plain "java/lang/Enum" (some 0) with
  accessFlags := 1057
  interfaces := #[4, 5, 6]
  cf := some (fileOf pool7 2 #[.nestMembers #[106]] #[] 1057 12 #[111, 113, 115] #[{ accessFlags := 18, nameIndex := 5, descriptorIndex := 6, attributes := #[] }, { accessFlags := 18, nameIndex := 9, descriptorIndex := 10, attributes := #[] }, { accessFlags := 2, nameIndex := 19, descriptorIndex := 10, attributes := #[] }])
  fields := #[{ name := "name", type := (.object "java/lang/String"), accessFlags := 18, slot := 0, constantValue := 0 }, { name := "ordinal", type := .int, accessFlags := 18, slot := 1, constantValue := 0 }, { name := "hash", type := .int, accessFlags := 2, slot := 2, constantValue := 0 }]
  methods := #[]
  instanceTypes := #[(.object "java/lang/String"), .int, .int]
  staticTypes := #[]
  resolved := Array.replicate 204 none
  statics := none }

def pool8 : Array CpInfo := pool [(1, .class_ 2), (0, u "com/example/attenuation/attenuation/core/Outcome$Status"), (2, u "DONE"), (0, u "Lcom/example/attenuation/attenuation/core/Outcome$Status;"), (2, u "DENIED"), (2, u "UNAVAILABLE"), (2, u "FAILED"), (2, u "UNREACHABLE"), (2, u "$VALUES"), (0, u "[Lcom/example/attenuation/attenuation/core/Outcome$Status;"), (6, .class_ 31), (1, u "java/lang/Enum"), (28, .class_ 61), (0, u "com/example/attenuation/attenuation/core/Outcome")] 2

/-- com/example/attenuation/attenuation/core/Outcome$Status -/
def k8 : Class := { plain "com/example/attenuation/attenuation/core/Outcome$Status" (some 7) with
  accessFlags := 16433
  interfaces := #[]
  cf := some (fileOf pool8 1 #[.nestHost 60] #[] 16433 29 #[] #[{ accessFlags := 16409, nameIndex := 5, descriptorIndex := 6, attributes := #[] }, { accessFlags := 16409, nameIndex := 9, descriptorIndex := 6, attributes := #[] }, { accessFlags := 16409, nameIndex := 12, descriptorIndex := 6, attributes := #[] }, { accessFlags := 16409, nameIndex := 15, descriptorIndex := 6, attributes := #[] }, { accessFlags := 16409, nameIndex := 18, descriptorIndex := 6, attributes := #[] }, { accessFlags := 4122, nameIndex := 21, descriptorIndex := 22, attributes := #[] }])
  fields := #[{ name := "DONE", type := (.object "com/example/attenuation/attenuation/core/Outcome$Status"), accessFlags := 16409, slot := 0, constantValue := 0 }, { name := "DENIED", type := (.object "com/example/attenuation/attenuation/core/Outcome$Status"), accessFlags := 16409, slot := 1, constantValue := 0 }, { name := "UNAVAILABLE", type := (.object "com/example/attenuation/attenuation/core/Outcome$Status"), accessFlags := 16409, slot := 2, constantValue := 0 }, { name := "FAILED", type := (.object "com/example/attenuation/attenuation/core/Outcome$Status"), accessFlags := 16409, slot := 3, constantValue := 0 }, { name := "UNREACHABLE", type := (.object "com/example/attenuation/attenuation/core/Outcome$Status"), accessFlags := 16409, slot := 4, constantValue := 0 }, { name := "$VALUES", type := (.array (.object "com/example/attenuation/attenuation/core/Outcome$Status")), accessFlags := 4122, slot := 5, constantValue := 0 }]
  methods := #[]
  instanceTypes := #[(.object "java/lang/String"), .int, .int]
  staticTypes := #[(.object "com/example/attenuation/attenuation/core/Outcome$Status"), (.object "com/example/attenuation/attenuation/core/Outcome$Status"), (.object "com/example/attenuation/attenuation/core/Outcome$Status"), (.object "com/example/attenuation/attenuation/core/Outcome$Status"), (.object "com/example/attenuation/attenuation/core/Outcome$Status"), (.array (.object "com/example/attenuation/attenuation/core/Outcome$Status"))]
  resolved := Array.replicate 64 none
  statics := some 0 }

def pool9 : Array CpInfo := pool [(2, .class_ 4), (1, u "java/lang/CharSequence"), (42, .class_ 48), (0, u "java/lang/CharSequence$1CodePointIterator"), (10, .class_ 60), (0, u "java/lang/CharSequence$1CharIterator"), (5, .class_ 67), (0, u "java/lang/Object")] 63

/-- java/lang/CharSequence -/
def k9 : Class := { plain "java/lang/CharSequence" (some 0) with
  accessFlags := 1537
  interfaces := #[]
  cf := some (fileOf pool9 2 #[.nestMembers #[47, 59]] #[] 1537 66 #[] #[])
  fields := #[]
  methods := #[]
  instanceTypes := #[]
  staticTypes := #[]
  resolved := Array.replicate 131 none
  statics := none }

def pool10 : Array CpInfo := pool [(1, .class_ 2), (0, u "java/lang/constant/ConstantDesc"), (0, .class_ 4), (0, u "java/lang/Object")] 32

/-- java/lang/constant/ConstantDesc -/
def k10 : Class := { plain "java/lang/constant/ConstantDesc" (some 0) with
  accessFlags := 1537
  interfaces := #[]
  cf := some (fileOf pool10 1 #[] #[] 1537 3 #[] #[])
  fields := #[]
  methods := #[]
  instanceTypes := #[]
  staticTypes := #[]
  resolved := Array.replicate 37 none
  statics := none }

def pool11 : Array CpInfo := pool [(2, .class_ 4), (1, u "java/lang/Object"), (0, u "<init>"), (0, u "()V"), (3, .class_ 12), (1, u "java/lang/String"), (0, u "value"), (0, u "[B"), (2, u "coder"), (0, u "B"), (2, u "hash"), (0, u "I"), (2, u "hashIsZero"), (0, u "Z"), (13, u "COMPACT_STRINGS"), (534, .class_ 576), (0, u "java/lang/CharSequence"), (22, u "CASE_INSENSITIVE_ORDER"), (0, u "Ljava/util/Comparator;"), (500, u "serialPersistentFields"), (0, u "[Ljava/io/ObjectStreamField;"), (0, .class_ 1104), (0, u "java/lang/String$CaseInsensitiveComparator"), (1, .class_ 1107), (0, u "java/io/Serializable"), (0, .class_ 1109), (0, u "java/lang/Comparable"), (0, .class_ 1111), (0, u "java/lang/constant/Constable"), (0, .class_ 1113), (0, u "java/lang/constant/ConstantDesc"), (2, u "serialVersionUID"), (0, u "J"), (3, u "REPL"), (0, u "C"), (2, u "LATIN1"), (1, u "UTF16")] 323

def k11m0 : Method := { name := "<init>", desc := "()V", sig := { parameters := [], returnType := none }, accessFlags := 1, code := none }
/-- java/lang/String -/
def k11 : Class := { plain "java/lang/String" (some 0) with
  accessFlags := 49
  interfaces := #[6, 5, 9, 4, 10]
  cf := some (fileOf pool11 10 #[.nestMembers #[1103]] #[{ accessFlags := 1, nameIndex := 5, descriptorIndex := 6, attributes := #[] }] 49 2 #[1106, 1108, 575, 1110, 1112] #[{ accessFlags := 18, nameIndex := 13, descriptorIndex := 14, attributes := #[] }, { accessFlags := 18, nameIndex := 17, descriptorIndex := 18, attributes := #[] }, { accessFlags := 2, nameIndex := 21, descriptorIndex := 22, attributes := #[] }, { accessFlags := 2, nameIndex := 25, descriptorIndex := 26, attributes := #[] }, { accessFlags := 26, nameIndex := 1116, descriptorIndex := 1117, attributes := #[] }, { accessFlags := 24, nameIndex := 40, descriptorIndex := 26, attributes := #[] }, { accessFlags := 26, nameIndex := 1101, descriptorIndex := 1102, attributes := #[] }, { accessFlags := 26, nameIndex := 1121, descriptorIndex := 1122, attributes := #[] }, { accessFlags := 25, nameIndex := 599, descriptorIndex := 600, attributes := #[] }, { accessFlags := 24, nameIndex := 1125, descriptorIndex := 18, attributes := #[] }, { accessFlags := 24, nameIndex := 1127, descriptorIndex := 18, attributes := #[] }])
  fields := #[{ name := "value", type := (.array .byte), accessFlags := 18, slot := 0, constantValue := 0 }, { name := "coder", type := .byte, accessFlags := 18, slot := 1, constantValue := 0 }, { name := "hash", type := .int, accessFlags := 2, slot := 2, constantValue := 0 }, { name := "hashIsZero", type := .boolean, accessFlags := 2, slot := 3, constantValue := 0 }, { name := "serialVersionUID", type := .long, accessFlags := 26, slot := 0, constantValue := 0 }, { name := "COMPACT_STRINGS", type := .boolean, accessFlags := 24, slot := 1, constantValue := 0 }, { name := "serialPersistentFields", type := (.array (.object "java/io/ObjectStreamField")), accessFlags := 26, slot := 2, constantValue := 0 }, { name := "REPL", type := .char, accessFlags := 26, slot := 3, constantValue := 0 }, { name := "CASE_INSENSITIVE_ORDER", type := (.object "java/util/Comparator"), accessFlags := 25, slot := 4, constantValue := 0 }, { name := "LATIN1", type := .byte, accessFlags := 24, slot := 5, constantValue := 0 }, { name := "UTF16", type := .byte, accessFlags := 24, slot := 6, constantValue := 0 }]
  methods := #[k11m0]
  instanceTypes := #[(.array .byte), .byte, .int, .boolean]
  staticTypes := #[.long, .boolean, (.array (.object "java/io/ObjectStreamField")), .char, (.object "java/util/Comparator"), .byte, .byte]
  resolved := Array.replicate 1451 none
  statics := none }

def pool12 : Array CpInfo := pool [(2, .class_ 4), (1, u "java/lang/Object"), (0, u "<init>"), (0, u "()V"), (35, .class_ 44), (1, u "java/util/Objects"), (0, u "requireNonNull"), (48, u "(Ljava/lang/Object;Ljava/lang/String;)Ljava/lang/Object;")] 89

def k12m0 : Method := { name := "<init>", desc := "()V", sig := { parameters := [], returnType := none }, accessFlags := 2, code := none }
def k12c1 : Code := { maxStack := 3, maxLocals := 2, code := jdk_31_method_11_code, exceptionTable := #[], attributes := #[] }
def k12m1 : Method := { name := "requireNonNull", desc := "(Ljava/lang/Object;Ljava/lang/String;)Ljava/lang/Object;", sig := { parameters := [(.object "java/lang/Object"), (.object "java/lang/String")], returnType := some (.object "java/lang/Object") }, accessFlags := 9, code := some k12c1 }
/-- java/util/Objects -/
def k12 : Class := { plain "java/util/Objects" (some 0) with
  accessFlags := 49
  interfaces := #[]
  cf := some (fileOf pool12 42 #[] #[{ accessFlags := 2, nameIndex := 5, descriptorIndex := 6, attributes := #[] }, { accessFlags := 9, nameIndex := 45, descriptorIndex := 94, attributes := #[] }] 49 2 #[] #[])
  fields := #[]
  methods := #[k12m0, k12m1]
  instanceTypes := #[]
  staticTypes := #[]
  resolved := Array.replicate 184 none
  statics := none }

def pool13 : Array CpInfo := pool [(1, u "java/lang/Cloneable"), (0, .class_ 1), (0, u "java/lang/Object"), (0, .class_ 3)] 3

/-- java/lang/Cloneable -/
def k13 : Class := { plain "java/lang/Cloneable" (some 0) with
  accessFlags := 1537
  interfaces := #[]
  cf := some (fileOf pool13 2 #[] #[] 1537 4 #[] #[])
  fields := #[]
  methods := #[]
  instanceTypes := #[]
  staticTypes := #[]
  resolved := Array.replicate 8 none
  statics := none }

/-- the primitive byte -/
def k14 : Class := { plain "byte" none with kind := .primitive 'B', accessFlags := 0x411 }
/-- [B -/
def k15 : Class := { plain "[B" (some 0) with kind := .array 14 .byte, interfaces := #[13, 6], accessFlags := 1041 }

/-- the primitive int -/
def k16 : Class := { plain "int" none with kind := .primitive 'I', accessFlags := 0x411 }
/-- [I -/
def k17 : Class := { plain "[I" (some 0) with kind := .array 16 .int, interfaces := #[13, 6], accessFlags := 1041 }

def heap : Heap := #[{ cls := 8, slots := #[.ref 1, .null, .null, .null, .null, .null], vm := .statics 8 },
  { cls := 8, slots := #[.null, .int 0, .int 0], vm := .none }]
def classes : Array Class := #[k0, k1, k2, k3, k4, k5, k6, k7, k8, k9, k10, k11, k12, k13, k14, k15, k16, k17]
def interned : List (Array UInt16 × Addr) := []
def slotsUsed : Nat := 9
def theMethod : MethodId := ⟨1, 1⟩
def args0 : Array Value := #[.int 3, .int 65, .int 66, .int 67]
def aboutOver (below : List Frame) : State where
  vm := { classes := classes, interned := interned.toArray }
  heap := heap
  slotsUsed := slotsUsed
  threads := #[{ frames := .invoking theMethod args0 :: below }]
def below0 : List Frame := [.native { method := ⟨0, 0⟩, args := #[] }]
def about1 : State := aboutOver below0
def p0 : Program := .bare "" "" ""
def e0 : Env := launch0.env 0 0 0
theorem w_frames : about1.frames = Frame.invoking theMethod args0 :: below0 := rfl
set_option maxRecDepth 65536 in
theorem w_args : argsFit about1.vm theMethod args0 = true := by decide +kernel
set_option maxRecDepth 65536 in
theorem w_heap : heapFits about1 = true := by decide +kernel
set_option maxRecDepth 65536 in
theorem w_runnable : about1.curStatus? = some .runnable := by decide +kernel
set_option maxRecDepth 65536 in
theorem w_alone : about1.alone = true := by decide +kernel
set_option maxRecDepth 65536 in
theorem w_named : about1.methodNamed? x = some theMethod := by decide +kernel
set_option maxRecDepth 65536 in
theorem w_hears : about1.hears theMethod below0 = true := by decide +kernel
set_option maxRecDepth 65536 in
theorem w_ripe : about1.ripe theMethod args0 below0 = true := by decide +kernel
theorem w_running : about1.status = .running := rfl
set_option maxRecDepth 65536 in
theorem w_room : about1.hasRoom e0.platform room_1 = true :=
  launch0.hasRoom_least _ room_1 (by decide +kernel) (by decide +kernel) (by decide +kernel) (by decide +kernel) (by decide +kernel) (by decide +kernel)
theorem allAtoms_all (ts : List Jvm.Cond) (a : Array Jvm.Value) (st : Jvm.State) : (allAtoms ts).before a st = ts.all (fun c => c.before a st) := by
  induction ts with
  | nil => rfl
  | cons c t ih =>
    show (Jvm.Cond.and c (allAtoms t)).before a st = _
    rw [Jvm.Cond.before_and, ih, List.all_cons]
def words1 : List Jvm.Cond := Jvm.Cond.code x code maxLocals ret :: tables_1
/-- a 'code' word, met by the world's own term for the bytes: nothing is compared byte by byte -/
theorem code_word {y : MethodName} {bytes : ByteArray} {mx : Nat} {rt : Option FieldType} {a : Array Value} {s : State} {m : MethodId} {meth : Method} {c : Code} (h1 : s.methodNamed? y = some m) (h2 : s.vm.method? m = some meth) (h3 : meth.code = some c) (h4 : c.code = bytes)
    (h5 : (c.maxLocals == mx && c.exceptionTable.isEmpty && decide (c.maxStack ≤ mostOperands) && decide (meth.sig.returnType = rt) && !meth.locks && decide (parseMethodDescriptor y.desc = some meth.sig)) = true) : (Jvm.Cond.code y bytes mx rt).before a s = true := by
  simp only [Bool.and_eq_true, beq_iff_eq, Bool.not_eq_true', decide_eq_true_eq] at h5
  obtain ⟨⟨⟨⟨⟨g1, g2⟩, g3⟩, g4⟩, g5⟩, g6⟩ := h5
  simp [Cond.before, Cond.holds, Cond.value, h1, h2, h3, h4, g1, g2, g3, g4, g5, g6]
def isCode : Jvm.Cond → Bool
  | .code _ _ _ _ => true
  | _ => false
theorem all_split {L : List Jvm.Cond} {P : Jvm.Cond → Bool} (h1 : L.all (fun c => isCode c || P c) = true) (h2 : ∀ c ∈ L.filter isCode, P c = true) : L.all P = true := by
  refine List.all_eq_true.mpr fun c hc => ?_
  have h := List.all_eq_true.mp h1 c hc
  rcases Bool.eq_false_or_eq_true (isCode c) with hi | hi
  · exact h2 c (List.mem_filter.mpr ⟨hc, hi⟩)
  · simpa [hi] using h
set_option maxRecDepth 65536 in
theorem w_c0 : (Jvm.Cond.code x code maxLocals ret).before args0 about1 = true := code_word (m := ⟨1, 1⟩) (meth := k1m1) (c := k1c1) (by decide +kernel) rfl rfl rfl (by decide +kernel)
set_option maxRecDepth 65536 in
theorem w_c1 : (Jvm.Cond.code ({ cls := "com/example/attenuation/attenuation/core/Outcome", name := "done", desc := "([B)Lcom/example/attenuation/attenuation/core/Outcome;" } : Jvm.MethodName) prog_16_method_2_code (1 : Nat) (Option.some (Jvm.ClassFile.FieldType.object "com/example/attenuation/attenuation/core/Outcome"))).before args0 about1 = true := code_word (m := ⟨3, 1⟩) (meth := k3m1) (c := k3c1) (by decide +kernel) rfl rfl rfl (by decide +kernel)
set_option maxRecDepth 65536 in
theorem w_c2 : (Jvm.Cond.code ({ cls := "com/example/attenuation/attenuation/core/Outcome", name := "<init>", desc := "(Lcom/example/attenuation/attenuation/core/Outcome$Status;[B)V" } : Jvm.MethodName) prog_16_method_1_code (3 : Nat) (Option.none : Option Jvm.ClassFile.FieldType)).before args0 about1 = true := code_word (m := ⟨3, 0⟩) (meth := k3m0) (c := k3c0) (by decide +kernel) rfl rfl rfl (by decide +kernel)
set_option maxRecDepth 65536 in
theorem w_c3 : (Jvm.Cond.code ({ cls := "java/lang/Record", name := "<init>", desc := "()V" } : Jvm.MethodName) jdk_30_method_1_code (1 : Nat) (Option.none : Option Jvm.ClassFile.FieldType)).before args0 about1 = true := code_word (m := ⟨2, 0⟩) (meth := k2m0) (c := k2c0) (by decide +kernel) rfl rfl rfl (by decide +kernel)
set_option maxRecDepth 65536 in
theorem w_c4 : (Jvm.Cond.code ({ cls := "java/lang/Object", name := "<init>", desc := "()V" } : Jvm.MethodName) object_method_1_code (1 : Nat) (Option.none : Option Jvm.ClassFile.FieldType)).before args0 about1 = true := code_word (m := ⟨0, 0⟩) (meth := k0m0) (c := k0c0) (by decide +kernel) rfl rfl rfl (by decide +kernel)
set_option maxRecDepth 65536 in
theorem w_c5 : (Jvm.Cond.code ({ cls := "java/util/Objects", name := "requireNonNull", desc := "(Ljava/lang/Object;Ljava/lang/String;)Ljava/lang/Object;" } : Jvm.MethodName) jdk_31_method_11_code (2 : Nat) (Option.some (Jvm.ClassFile.FieldType.object "java/lang/Object"))).before args0 about1 = true := code_word (m := ⟨12, 1⟩) (meth := k12m1) (c := k12c1) (by decide +kernel) rfl rfl rfl (by decide +kernel)
set_option maxRecDepth 65536 in
theorem w_c6 : (Jvm.Cond.code ({ cls := "com/example/attenuation/attenuation/core/Outcome", name := "status", desc := "()Lcom/example/attenuation/attenuation/core/Outcome$Status;" } : Jvm.MethodName) prog_16_method_15_code (1 : Nat) (Option.some (Jvm.ClassFile.FieldType.object "com/example/attenuation/attenuation/core/Outcome$Status"))).before args0 about1 = true := code_word (m := ⟨3, 2⟩) (meth := k3m2) (c := k3c2) (by decide +kernel) rfl rfl rfl (by decide +kernel)
set_option maxRecDepth 65536 in
theorem w_c7 : (Jvm.Cond.code ({ cls := "com/example/attenuation/attenuation/core/Outcome", name := "body", desc := "()[B" } : Jvm.MethodName) prog_16_method_16_code (1 : Nat) (Option.some (Jvm.ClassFile.FieldType.array Jvm.ClassFile.FieldType.byte))).before args0 about1 = true := code_word (m := ⟨3, 3⟩) (meth := k3m3) (c := k3c3) (by decide +kernel) rfl rfl rfl (by decide +kernel)
def codes1 : List Jvm.Cond := [Jvm.Cond.code x code maxLocals ret, Jvm.Cond.code ({ cls := "com/example/attenuation/attenuation/core/Outcome", name := "done", desc := "([B)Lcom/example/attenuation/attenuation/core/Outcome;" } : Jvm.MethodName) prog_16_method_2_code (1 : Nat) (Option.some (Jvm.ClassFile.FieldType.object "com/example/attenuation/attenuation/core/Outcome")), Jvm.Cond.code ({ cls := "com/example/attenuation/attenuation/core/Outcome", name := "<init>", desc := "(Lcom/example/attenuation/attenuation/core/Outcome$Status;[B)V" } : Jvm.MethodName) prog_16_method_1_code (3 : Nat) (Option.none : Option Jvm.ClassFile.FieldType), Jvm.Cond.code ({ cls := "java/lang/Record", name := "<init>", desc := "()V" } : Jvm.MethodName) jdk_30_method_1_code (1 : Nat) (Option.none : Option Jvm.ClassFile.FieldType), Jvm.Cond.code ({ cls := "java/lang/Object", name := "<init>", desc := "()V" } : Jvm.MethodName) object_method_1_code (1 : Nat) (Option.none : Option Jvm.ClassFile.FieldType), Jvm.Cond.code ({ cls := "java/util/Objects", name := "requireNonNull", desc := "(Ljava/lang/Object;Ljava/lang/String;)Ljava/lang/Object;" } : Jvm.MethodName) jdk_31_method_11_code (2 : Nat) (Option.some (Jvm.ClassFile.FieldType.object "java/lang/Object")), Jvm.Cond.code ({ cls := "com/example/attenuation/attenuation/core/Outcome", name := "status", desc := "()Lcom/example/attenuation/attenuation/core/Outcome$Status;" } : Jvm.MethodName) prog_16_method_15_code (1 : Nat) (Option.some (Jvm.ClassFile.FieldType.object "com/example/attenuation/attenuation/core/Outcome$Status")), Jvm.Cond.code ({ cls := "com/example/attenuation/attenuation/core/Outcome", name := "body", desc := "()[B" } : Jvm.MethodName) prog_16_method_16_code (1 : Nat) (Option.some (Jvm.ClassFile.FieldType.array Jvm.ClassFile.FieldType.byte))]
set_option maxRecDepth 65536 in
theorem codes_eq : words1.filter isCode = codes1 := rfl
theorem w_codes : ∀ c ∈ words1.filter isCode, c.before args0 about1 = true := by
  rw [codes_eq]
  intro c hc
  simp only [codes1, List.mem_cons, List.not_mem_nil, or_false] at hc
  rcases hc with rfl | rfl | rfl | rfl | rfl | rfl | rfl | rfl
  · exact w_c0
  · exact w_c1
  · exact w_c2
  · exact w_c3
  · exact w_c4
  · exact w_c5
  · exact w_c6
  · exact w_c7
set_option maxRecDepth 65536 in
theorem w_t1 : (words1.take 24).all (fun c => isCode c || c.before args0 about1) = true := by decide +kernel
set_option maxRecDepth 65536 in
theorem w_t2 : ((words1.drop 24).take 24).all (fun c => isCode c || c.before args0 about1) = true := by decide +kernel
set_option maxRecDepth 65536 in
theorem w_t3 : ((words1.drop 24).drop 24).all (fun c => isCode c || c.before args0 about1) = true := by decide +kernel
theorem w_tables : (allAtoms (Jvm.Cond.code x code maxLocals ret :: tables_1)).before args0 about1 = true := by
  rw [allAtoms_all]
  show words1.all (fun c => c.before args0 about1) = true
  refine all_split ?_ w_codes
  rw [← List.take_append_drop 24 words1, List.all_append, w_t1, ← List.take_append_drop 24 (words1.drop 24), List.all_append, w_t2, w_t3]
  rfl
set_option maxRecDepth 65536 in
theorem w_case : (Jvm.Cond.and given_1 narrow_1).before args0 about1 = true := by decide +kernel
theorem w_applies : (headSpec (Jvm.Cond.code x code maxLocals ret :: tables_1) room_1).applies x e0.platform about1 = true :=
  (Spec.applies_iff w_frames).mpr ⟨w_running, w_runnable, w_alone, w_named, w_hears, w_ripe, w_room, w_tables⟩
theorem atStart : AtStart classFile x code maxLocals ret World_1 tables_1 room_1 Calls_1 rest_1 Pre_1 launch0 p0 e0 about1 theMethod args0 below0 :=
  ⟨lists_1, trivial, launch0.admits_env _ _ _, launch0.least_env, fairChoices_fair.cas, fairChoices_fair.clock, w_frames, w_args, w_heap, w_applies, trivial, trivial, w_case⟩
end start1
theorem witness_1 : WitnessClaimed_1 := ⟨start1.p0, start1.e0, start1.about1, start1.theMethod, start1.args0, start1.below0, start1.atStart⟩
end Jvm.Pilot.@@N@@
