import JvmDerived
import JvmDerived.Pilot.@@N@@Statement
import JvmDerived.Pilot.@@N@@Code
set_option linter.unusedVariables false
set_option linter.unusedSimpArgs false
namespace Jvm.Pilot.@@N@@
open Jvm Jvm.ClassFile Sem Op Lib Jvm.Free Jvm.Stand Jvm.LawKit Jvm.RoadKit Bundle Jvm.Pilot.@@N@@.Jvm.D
abbrev own_At (p : Program) (e : Env) (below : List Frame) (m : MethodId) (T : State) (pc : Nat) (ls : Array Slot) (st : List Value) (t : State) : Prop := Steps p.tables e below (T.setTop (mkF m pc ls st)) t
abbrev own_En (p : Program) (e : Env) (below : List Frame) (m : MethodId) (T : State) (a : Array Value) (n : Nat) (t : State) : Prop := Steps p.tables e below (T.setTop (entryFrame m a n)) t
theorem own_w {a0 : Array Value} {Z : State} (hw : ∀ d ∈ tables_1, d.before a0 Z = true) (i : Nat) {d : Jvm.Cond} (h : tables_1[i]? = some d) : d.before a0 Z = true := hw d (List.mem_of_getElem? h)
theorem own_eqI {t : Term} {k : Int32} {args : Array Value} {s : State} (h : (Jvm.Cond.eq t (.int k)).value args s none s [] = some true) : t.eval args s none [] s = some (.int k) := by
  have e : (Term.int k).eval args s none [] s = some (.int k) := rfl
  simp only [Cond.value, e] at h
  cases ht : t.eval args s none [] s with
  | none => simp [ht] at h
  | some x => cases x <;> simp [ht] at h ⊢; exact h
theorem own_neI {t : Term} {k z : Int32} {args : Array Value} {s : State} (e : t.eval args s none [] s = some (.int z)) (h : (Jvm.Cond.not (Jvm.Cond.eq t (.int k))).value args s none s [] = some true) : ¬ (z = k) := by
  have q := not_v h
  have e2 : (Term.int k).eval args s none [] s = some (.int k) := rfl
  simp only [Cond.value, e, e2, Bool.not_true, Option.some.injEq, decide_eq_false_iff_not] at q
  exact q
theorem own_neR {t u : Term} {a b : Addr} {args : Array Value} {s : State} (ea : t.eval args s none [] s = some (.ref a)) (eb : u.eval args s none [] s = some (.ref b)) (h : (Jvm.Cond.not (Jvm.Cond.eq t u)).value args s none s [] = some true) : ¬ (a = b) := by
  have q := not_v h
  rw [eq_R ea eb rfl rfl] at q
  intro e
  rw [e] at q
  simp at q
theorem own_eqJ {t : Term} {k : Int64} {args : Array Value} {s : State} (h : (Jvm.Cond.eq t (.long k)).value args s none s [] = some true) : t.eval args s none [] s = some (.long k) := by
  have e : (Term.long k).eval args s none [] s = some (.long k) := rfl
  simp only [Cond.value, e] at h
  cases ht : t.eval args s none [] s with
  | none => simp [ht] at h
  | some x => cases x <;> simp [ht] at h ⊢; exact h
theorem own_len {t : Term} {n : Int32} {a : Addr} {cl : Cell} {ty : FieldType} {args : Array Value} {s : State} (ev : t.eval args s none [] s = some (.ref a)) (A : Arr s s.heap a cl ty) (h : (Jvm.Cond.eq (.length t) (.int n)).value args s none s [] = some true) : cl.slots.size < 2 ^ 31 ∧ cl.slots.size.toInt32 = n := by
  have q := own_eqI h
  have hA := A.fin (Vm.Alike.refl _)
  simp only [Term.eval, ev, hA, Option.bind_eq_bind, Option.bind_some] at q
  split at q
  · rename_i hl
    exact ⟨hl, Value.int.inj (Option.some.inj q)⟩
  · cases q
theorem own_elem {t : Term} {j : Int32} {a : Addr} {v : Value} {cl : Cell} {ty : FieldType} {args : Array Value} {s : State} (ev : t.eval args s none [] s = some (.ref a)) (A : Arr s s.heap a cl ty) (h : (Term.elem t (.int j)).eval args s none [] s = some v) (i : Nat) (hi : j.toNatClampNeg = i) : cl.slots[i]? = some v := by
  have q := (elem_in h ev (rfl : (Term.int j).eval args s none [] s = some (.int j)) A.1).2
  rw [hi] at q; exact q
/-- an array as it stood at the start, that may be cloned -/
def own_Cln (Z : State) (h : Heap) (a : Addr) (ty : FieldType) (n : Int32) (vs : List Value) (d : Value) : Prop := ∃ c : Cell, Arr Z h a c ty ∧ FitC Z c ∧ c.slots.size = n.toNatClampNeg ∧ ¬ n < 0 ∧ Has c vs d ∧ ∀ i, i < c.slots.size → fits ty (vs.getD i d) = true
theorem own_Cln.ext {Z : State} {h h' : Heap} {a : Addr} {ty : FieldType} {n : Int32} {vs : List Value} {d : Value} (F : own_Cln Z h a ty n vs d) (E : Ext h h') : own_Cln Z h' a ty n vs d := by
  obtain ⟨c, A, r⟩ := F; exact ⟨c, A.ext E, r⟩
theorem own_Cln.start {Z : State} {a : Addr} {cl : Cell} {ty : FieldType} {z : Int32} {vs : List Value} {dv : Value} (hf : Fit Z) (A : Arr Z Z.heap a cl ty) (q : cl.slots.size < 2 ^ 31 ∧ cl.slots.size.toInt32 = z) (hz : ¬ z < 0) (hl : z.toNatClampNeg = vs.length) (H : HasL cl 0 vs) : own_Cln Z Z.heap a ty z vs dv := by
  have S : cl.slots.size = z.toNatClampNeg := by rw [← q.2]; simp only [Int32.toNatClampNeg, len_toInt q.1]; rfl
  have H' : Has cl vs dv := fun j hj => by have := HasL.at (dv := dv) vs 0 H j (by rw [← hl, ← S]; exact hj); rwa [Nat.zero_add] at this
  refine ⟨cl, A, FitC.start hf A, S, hz, H', fun j hj => ?_⟩
  have e1 : (Nat.toInt32 j).toNatClampNeg = j := by simp only [Int32.toNatClampNeg, len_toInt (Nat.lt_trans hj q.1)]; rfl
  exact elem_fits (j := Nat.toInt32 j) hf A (idx_in hj q.1) (by rw [e1]; exact H' j hj)
theorem own_Cln.arv {Z : State} {h : Heap} {a : Addr} {ty : FieldType} {n : Int32} {vs : List Value} {d : Value} (F : own_Cln Z h a ty n vs d) : ∃ k, Arv Z h a k ty n vs d := by
  obtain ⟨c, A, -, r⟩ := F; exact ⟨c.cls, c, A, rfl, r⟩
theorem own_eqR {t u : Term} {b : Addr} {args : Array Value} {s : State} (h : (Jvm.Cond.eq t u).value args s none s [] = some true) (e : u.eval args s none [] s = some (.ref b)) : t.eval args s none [] s = some (.ref b) := by
  simp only [Cond.value, e] at h
  cases ht : t.eval args s none [] s with
  | none => simp [ht] at h
  | some x => cases x <;> simp [ht] at h ⊢; exact h
theorem own_dup2L {tb : Tables} [Ours tb] {e : Env} {below : List Frame} {T target : State} {m : MethodId} {c : Code} {g : JFrame} (h : At T m c below) (hx : tb.exec = Jvm.exec) (hg : g.method = m) {x : Int64} {rest : List Value} (hd : decode c.code g.pc = .ok (.dup2, 1)) (hs : g.stack = .long x :: rest) (hr : Steps tb e below (T.setTop { g with pc := g.pc + 1, stack := .long x :: .long x :: rest }) target) : Steps tb e below (T.setTop g) target := by
  subst hg
  jvm_step h [h.top, hx, hd, hs, Value.category]
  exact hr
theorem own_sub {a b : Term} {x y : Int32} {args : Array Value} {Z : State} {idx : List Nat} (ha : a.eval args Z none idx Z = some (.int x)) (hb : b.eval args Z none idx Z = some (.int y)) : (Term.sub a b).eval args Z none idx Z = some (.int (x - y)) := by simp [Term.eval, ha, hb]
theorem own_c1 {p : Int64} (h1 : ¬ ((lcmpW p (-128 : Int64)) < (0 : Int32))) (h2 : ¬ ((0 : Int32) < (lcmpW p (127 : Int64)))) : -128 ≤ p.toInt ∧ p.toInt ≤ 127 := by
  rw [lw_lt, Int64.lt_iff_toInt_lt] at h1
  rw [lw_gt, Int64.lt_iff_toInt_lt] at h2
  have e1 : (-128 : Int64).toInt = -128 := by decide
  have e2 : (127 : Int64).toInt = 127 := by decide
  rw [e1] at h1; rw [e2] at h2; omega
theorem own_c2 {p : Int64} (h : -128 ≤ p.toInt ∧ p.toInt ≤ 127) : ((p.toInt32) + (128 : Int32)).toInt = p.toInt + 128 := by
  have a1 := c_l2i p
  have a2 := c_iadd p.toInt32 128
  have e : (128 : Int32).toInt = 128 := by decide
  rw [e] at a2
  have a3 := rng32 p.toInt32
  have a4 := rng32 (p.toInt32 + 128)
  omega
theorem own_c3 {p : Int64} (h : -128 ≤ p.toInt ∧ p.toInt ≤ 127) : ¬ ((p.toInt32) + (128 : Int32)) < 0 ∧ ((p.toInt32) + (128 : Int32)) < (256 : Int32) := by
  have e0 : (0 : Int32).toInt = 0 := by decide
  have e1 : (256 : Int32).toInt = 256 := by decide
  rw [Int32.lt_iff_toInt_lt, Int32.lt_iff_toInt_lt, own_c2 h, e0, e1]; omega
theorem own_c4 {p : Int64} (h : -128 ≤ p.toInt ∧ p.toInt ≤ 127) : (((p.toInt32) + (128 : Int32)) - (128 : Int32)).toInt64 = p := by
  apply Int64.toInt_inj.mp
  rw [c_i2l]
  have a1 := c_isub ((p.toInt32) + (128 : Int32)) 128
  rw [own_c2 h, (by decide : (128 : Int32).toInt = 128)] at a1
  have a2 := rng32 (((p.toInt32) + (128 : Int32)) - 128)
  omega
def EV (Z : State) (a_EMPTY_ELEMENTDATA : Addr) (a_DEFAULTCAPACITY_EMPTY_ELEMENTDATA : Addr) (a_cache : Addr) (a_TRUE : Addr) (a_MILLISECONDS : Addr) (a_MILLISECONDS_name : Addr) (a_FALSE : Addr) (cl_cache : Cell) : Prop := Sta Z Z.heap "java/util/ArrayList" "EMPTY_ELEMENTDATA" "[Ljava/lang/Object;" (.ref a_EMPTY_ELEMENTDATA) ∧ Exa Z Z.heap a_EMPTY_ELEMENTDATA "[Ljava/lang/Object;" ∧ Sta Z Z.heap "java/util/ArrayList" "DEFAULTCAPACITY_EMPTY_ELEMENTDATA" "[Ljava/lang/Object;" (.ref a_DEFAULTCAPACITY_EMPTY_ELEMENTDATA) ∧ Exa Z Z.heap a_DEFAULTCAPACITY_EMPTY_ELEMENTDATA "[Ljava/lang/Object;" ∧ Sta Z Z.heap "java/lang/Long$LongCache" "cache" "[Ljava/lang/Long;" (.ref a_cache) ∧ Exa Z Z.heap a_cache "[Ljava/lang/Long;" ∧ Sta Z Z.heap "java/lang/Boolean" "TRUE" "Ljava/lang/Boolean;" (.ref a_TRUE) ∧ Exa Z Z.heap a_TRUE "java/lang/Boolean" ∧ Fld Z Z.heap a_TRUE "java/lang/Boolean" "value" "Z" (.int (1 : Int32)) ∧ Sta Z Z.heap "java/util/concurrent/TimeUnit" "MILLISECONDS" "Ljava/util/concurrent/TimeUnit;" (.ref a_MILLISECONDS) ∧ Exa Z Z.heap a_MILLISECONDS "java/util/concurrent/TimeUnit" ∧ Fld Z Z.heap a_MILLISECONDS "java/lang/Enum" "name" "Ljava/lang/String;" (.ref a_MILLISECONDS_name) ∧ Exa Z Z.heap a_MILLISECONDS_name "java/lang/String" ∧ Fld Z Z.heap a_MILLISECONDS "java/lang/Enum" "ordinal" "I" (.int (2 : Int32)) ∧ Fld Z Z.heap a_MILLISECONDS "java/util/concurrent/TimeUnit" "scale" "J" (.long (1000000 : Int64)) ∧ Fld Z Z.heap a_MILLISECONDS "java/util/concurrent/TimeUnit" "maxNanos" "J" (.long (9223372036854 : Int64)) ∧ Fld Z Z.heap a_MILLISECONDS "java/util/concurrent/TimeUnit" "microRatio" "J" (.long (1000 : Int64)) ∧ Fld Z Z.heap a_MILLISECONDS "java/util/concurrent/TimeUnit" "maxMicros" "J" (.long (9223372036854775 : Int64)) ∧ Fld Z Z.heap a_MILLISECONDS "java/util/concurrent/TimeUnit" "milliRatio" "I" (.int (1 : Int32)) ∧ Fld Z Z.heap a_MILLISECONDS "java/util/concurrent/TimeUnit" "maxMillis" "J" (.long (9223372036854775807 : Int64)) ∧ Fld Z Z.heap a_MILLISECONDS "java/util/concurrent/TimeUnit" "secRatio" "I" (.int (1000 : Int32)) ∧ Fld Z Z.heap a_MILLISECONDS "java/util/concurrent/TimeUnit" "maxSecs" "J" (.long (9223372036854775 : Int64)) ∧ Sta Z Z.heap "java/lang/Boolean" "FALSE" "Ljava/lang/Boolean;" (.ref a_FALSE) ∧ Exa Z Z.heap a_FALSE "java/lang/Boolean" ∧ Fld Z Z.heap a_FALSE "java/lang/Boolean" "value" "Z" (.int (0 : Int32)) ∧ own_Cln Z Z.heap a_EMPTY_ELEMENTDATA (.object "java/lang/Object") (0 : Int32) [] .null ∧ own_Cln Z Z.heap a_DEFAULTCAPACITY_EMPTY_ELEMENTDATA (.object "java/lang/Object") (0 : Int32) [] .null ∧ Bxs Z a_cache cl_cache "java/lang/Long" "J" (256 : Int32) (fun j => .long (j - (128 : Int32)).toInt64)
theorem ef_li (m : MethodId) (x0 : Addr) (x1 : Int64)  : entryFrame m #[(.ref x0), (.long x1)] 3 = mkF m 0 #[.val (.ref x0), .val (.long x1), .second] [] := by first | (simp [entryFrame, mkF, argsToLocals, Value.category]; done) | rfl
theorem d_jdk_35_method_26_code_0 : decode jdk_35_method_26_code 0 = .ok (.aload_n 0, 1) := by decide +kernel
theorem d_jdk_35_method_26_code_1 : decode jdk_35_method_26_code 1 = .ok (.invokespecial 270, 3) := by decide +kernel
theorem ef_f1 (m : MethodId) (x0 : Addr)  : entryFrame m #[(.ref x0)] 1 = mkF m 0 #[.val (.ref x0)] [] := by first | (simp [entryFrame, mkF, argsToLocals, Value.category]; done) | rfl
theorem d_jdk_18_method_1_code_0 : decode jdk_18_method_1_code 0 = .ok (.aload_n 0, 1) := by decide +kernel
theorem d_jdk_18_method_1_code_1 : decode jdk_18_method_1_code 1 = .ok (.invokespecial 1, 3) := by decide +kernel
theorem d_jdk_18_method_1_code_4 : decode jdk_18_method_1_code 4 = .ok (.return_, 1) := by decide +kernel
theorem pn_java_lang_Number : plainName "java/lang/Number" = true := by first | (simp [plainName, overriddenIn]; done) | decide +kernel
abbrev own_m0 : MethodName := ⟨"java/lang/Number", "<init>", "()V"⟩
def Q_f1 (Z : State) (q0 : Addr) (a_EMPTY_ELEMENTDATA : Addr) (a_DEFAULTCAPACITY_EMPTY_ELEMENTDATA : Addr) (a_cache : Addr) (a_TRUE : Addr) (a_MILLISECONDS : Addr) (a_MILLISECONDS_name : Addr) (a_FALSE : Addr) (cl_cache : Cell) (h0 : Heap) (n0 : Nat) (v : Option Value) (h : Heap) (L : List Loc) : Prop := v = none ∧ Fr n0 L ∧ h = h0
set_option maxRecDepth 65536 in
set_option maxHeartbeats 40000000 in
theorem rm_f1 (l : Launch) (Z : State) (a0 : Array Value) (hw : ∀ d ∈ tables_1, d.before a0 Z = true) (ws : List Jvm.Cond) (q0 : Addr) (a_EMPTY_ELEMENTDATA : Addr) (a_DEFAULTCAPACITY_EMPTY_ELEMENTDATA : Addr) (a_cache : Addr) (a_TRUE : Addr) (a_MILLISECONDS : Addr) (a_MILLISECONDS_name : Addr) (a_FALSE : Addr) (cl_cache : Cell) (h0 : Heap) (n0 : Nat) (O0 : Old Z n0 h0) (hE : EV Z a_EMPTY_ELEMENTDATA a_DEFAULTCAPACITY_EMPTY_ELEMENTDATA a_cache a_TRUE a_MILLISECONDS a_MILLISECONDS_name a_FALSE cl_cache) :
    MetFree l own_m0 (head1 (Jvm.Cond.code own_m0 jdk_18_method_1_code 1 none :: ws) ({ frames := 1, cells := 0, slots := 0, locals := 12 } : Room)) (fun a U => a = #[(.ref q0)] ∧ Z.Warmed39 U.vm ∧ U.heap = h0) (fun _ _ _ _ _ => True) (fun _ U o U' => ∃ v L, o = .returned v ∧ Q_f1 Z q0 a_EMPTY_ELEMENTDATA a_DEFAULTCAPACITY_EMPTY_ELEMENTDATA a_cache a_TRUE a_MILLISECONDS a_MILLISECONDS_name a_FALSE cl_cache h0 n0 v U'.heap L ∧ FrameEnd U o U' L ({ frames := 1, cells := 0, slots := 0, locals := 12 } : Room).cells ({ frames := 1, cells := 0, slots := 0, locals := 12 } : Room).slots) := by
  refine MetFree.of_bodySF (plainFor_of_name pn_java_lang_Number) hisR ?_
  intro p e s m args below meth c s₁ Bd hml0 hP hK
  obtain ⟨rfl, hZ, hh⟩ := hP
  have hx := Bd.exec
  have hby := Bd.bytes
  have hml : c.maxLocals = 1 := hml0
  have hown : s.vm.findClass "java/lang/Number" = some m.cls := findClass_of_methodNamed Bd.named
  have hnm := (name_of_methodNamed Bd.named Bd.method).1
  have X00 : Stand p l e ({ frames := 1, cells := 0, slots := 0, locals := 12 } : Room) s m #[(.ref q0)] below meth c s₁ [] 0 0 := Stand.of_body Bd
  have e00 : s₁.heap = h0 := by rw [← hh, Bd.state]; rfl
  have N00 := Fr.nil n0
  refine Classical.byContradiction fun hNG => ?_
  have K00 := Keep.refl h0 []
  have k00 : ∀ t, own_At p e below m s₁ 0 #[.val (.ref q0)] [] t → own_En p e below m s₁ #[(.ref q0)] 1 t := fun t k => castTop (ef_f1 m q0 ) k
  obtain ⟨S_EMPTY_ELEMENTDATA, E_EMPTY_ELEMENTDATA, S_DEFAULTCAPACITY_EMPTY_ELEMENTDATA, E_DEFAULTCAPACITY_EMPTY_ELEMENTDATA, S_cache, E_cache, S_TRUE, E_TRUE, F_TRUE_value, S_MILLISECONDS, E_MILLISECONDS, F_MILLISECONDS_name, E_MILLISECONDS_name, F_MILLISECONDS_ordinal, F_MILLISECONDS_scale, F_MILLISECONDS_maxNanos, F_MILLISECONDS_microRatio, F_MILLISECONDS_maxMicros, F_MILLISECONDS_milliRatio, F_MILLISECONDS_maxMillis, F_MILLISECONDS_secRatio, F_MILLISECONDS_maxSecs, S_FALSE, E_FALSE, F_FALSE_value, C_EMPTY_ELEMENTDATA, C_DEFAULTCAPACITY_EMPTY_ELEMENTDATA, B_cache⟩ := (id hE : EV Z a_EMPTY_ELEMENTDATA a_DEFAULTCAPACITY_EMPTY_ELEMENTDATA a_cache a_TRUE a_MILLISECONDS a_MILLISECONDS_name a_FALSE cl_cache)
  obtain ⟨k_DEF, A_DEF⟩ := C_DEFAULTCAPACITY_EMPTY_ELEMENTDATA.arv
  obtain ⟨T10, X10, e10, st10⟩ := initO X00 hx hZ hown (own_w hw 179 rfl) (own_w hw 19 rfl) (own_w hw 20 rfl) e00 (g := (mkF m 1 #[.val (.ref q0)] [(.ref q0)])) rfl (by rw [hml]; rfl) rfl (hb hby d_jdk_18_method_1_code_1) (by decide) (W := 0) (by show 2 * 0 + _ ≤ _; exact Nat.le_of_eq rfl) (by decide)
  have k11 : ∀ t, own_At p e below m T10 4 #[.val (.ref q0)] [] t → own_En p e below m s₁ #[(.ref q0)] 1 t := by
    intro t k
    refine k00 t ?_
    refine XS.aloadN X00.here hx rfl (hb hby d_jdk_18_method_1_code_0) rfl rfl ?_
    show own_At p e below m s₁ 1 #[.val (.ref q0)] [(.ref q0)] t
    refine st10 _ ?_
    show own_At p e below m T10 4 #[.val (.ref q0)] [] t
    exact k
  obtain ⟨fs, hr, hrun, hended, hW, hsame⟩ := X10.leave (v := none) (fun _ => rfl)
  refine hNG ⟨_, _, k11 _ ?_, hrun, hended, _, _, rfl, ?_, ⟨_, rfl⟩, hW, hsame.mono (by decide) (by decide)⟩
  · exact X10.returnOut hx Bd.returns (hb hby d_jdk_18_method_1_code_4) hr
  · show Q_f1 Z q0 a_EMPTY_ELEMENTDATA a_DEFAULTCAPACITY_EMPTY_ELEMENTDATA a_cache a_TRUE a_MILLISECONDS a_MILLISECONDS_name a_FALSE cl_cache h0 n0 _ T10.heap _
    rw [e10]
    exact ⟨rfl, N00, rfl⟩
theorem pd___V : parseMethodDescriptor "()V" = some ⟨[], none⟩ := by decide +kernel
theorem d_jdk_35_method_26_code_4 : decode jdk_35_method_26_code 4 = .ok (.aload_n 0, 1) := by decide +kernel
theorem d_jdk_35_method_26_code_5 : decode jdk_35_method_26_code 5 = .ok (.lload_n 1, 1) := by decide +kernel
theorem d_jdk_35_method_26_code_6 : decode jdk_35_method_26_code 6 = .ok (.putfield 273, 3) := by decide +kernel
theorem d_jdk_35_method_26_code_9 : decode jdk_35_method_26_code 9 = .ok (.return_, 1) := by decide +kernel
theorem pn_java_lang_Long : plainName "java/lang/Long" = true := by first | (simp [plainName, overriddenIn]; done) | decide +kernel
abbrev own_m1 : MethodName := ⟨"java/lang/Long", "<init>", "(J)V"⟩
def Q_li (Z : State) (a1 : Addr) (p1 : Int64) (a_EMPTY_ELEMENTDATA : Addr) (a_DEFAULTCAPACITY_EMPTY_ELEMENTDATA : Addr) (a_cache : Addr) (a_TRUE : Addr) (a_MILLISECONDS : Addr) (a_MILLISECONDS_name : Addr) (a_FALSE : Addr) (cl_cache : Cell) (h0 : Heap) (n0 : Nat) (v : Option Value) (h : Heap) (L : List Loc) : Prop := v = none ∧ Fr n0 L ∧ Old Z n0 h ∧ Keep h0 h [a1] ∧ Exa Z h a1 "java/lang/Long" ∧ Fld Z h a1 "java/lang/Long" "value" "J" (.long p1)
set_option maxRecDepth 65536 in
set_option maxHeartbeats 40000000 in
theorem rm_li (l : Launch) (Z : State) (a0 : Array Value) (hw : ∀ d ∈ tables_1, d.before a0 Z = true) (ws : List Jvm.Cond) (a1 : Addr) (p1 : Int64) (a_EMPTY_ELEMENTDATA : Addr) (a_DEFAULTCAPACITY_EMPTY_ELEMENTDATA : Addr) (a_cache : Addr) (a_TRUE : Addr) (a_MILLISECONDS : Addr) (a_MILLISECONDS_name : Addr) (a_FALSE : Addr) (cl_cache : Cell) (h0 : Heap) (n0 : Nat) (O0 : Old Z n0 h0) (hE : EV Z a_EMPTY_ELEMENTDATA a_DEFAULTCAPACITY_EMPTY_ELEMENTDATA a_cache a_TRUE a_MILLISECONDS a_MILLISECONDS_name a_FALSE cl_cache) (F_value : Fld Z h0 a1 "java/lang/Long" "value" "J" (.long (0 : Int64))) (E_a1 : Exa Z h0 a1 "java/lang/Long") (g_a1 : n0 ≤ a1) :
    MetFree l own_m1 (head1 (Jvm.Cond.code own_m1 jdk_35_method_26_code 3 none :: ws) ({ frames := 2, cells := 0, slots := 0, locals := 24 } : Room)) (fun a U => a = #[(.ref a1), (.long p1)] ∧ Z.Warmed39 U.vm ∧ U.heap = h0) (fun _ _ _ _ _ => True) (fun _ U o U' => ∃ v L, o = .returned v ∧ Q_li Z a1 p1 a_EMPTY_ELEMENTDATA a_DEFAULTCAPACITY_EMPTY_ELEMENTDATA a_cache a_TRUE a_MILLISECONDS a_MILLISECONDS_name a_FALSE cl_cache h0 n0 v U'.heap L ∧ FrameEnd U o U' L ({ frames := 2, cells := 0, slots := 0, locals := 24 } : Room).cells ({ frames := 2, cells := 0, slots := 0, locals := 24 } : Room).slots) := by
  refine MetFree.of_bodySF (plainFor_of_name pn_java_lang_Long) hisR ?_
  intro p e s m args below meth c s₁ Bd hml0 hP hK
  obtain ⟨rfl, hZ, hh⟩ := hP
  have hx := Bd.exec
  have hby := Bd.bytes
  have hml : c.maxLocals = 3 := hml0
  have hown : s.vm.findClass "java/lang/Long" = some m.cls := findClass_of_methodNamed Bd.named
  have hnm := (name_of_methodNamed Bd.named Bd.method).1
  have X00 : Stand p l e ({ frames := 2, cells := 0, slots := 0, locals := 24 } : Room) s m #[(.ref a1), (.long p1)] below meth c s₁ [] 0 0 := Stand.of_body Bd
  have e00 : s₁.heap = h0 := by rw [← hh, Bd.state]; rfl
  have N00 := Fr.nil n0
  refine Classical.byContradiction fun hNG => ?_
  have K00 := Keep.refl h0 [a1]
  have k00 : ∀ t, own_At p e below m s₁ 0 #[.val (.ref a1), .val (.long p1), .second] [] t → own_En p e below m s₁ #[(.ref a1), (.long p1)] 3 t := fun t k => castTop (ef_li m a1 p1 ) k
  obtain ⟨S_EMPTY_ELEMENTDATA, E_EMPTY_ELEMENTDATA, S_DEFAULTCAPACITY_EMPTY_ELEMENTDATA, E_DEFAULTCAPACITY_EMPTY_ELEMENTDATA, S_cache, E_cache, S_TRUE, E_TRUE, F_TRUE_value, S_MILLISECONDS, E_MILLISECONDS, F_MILLISECONDS_name, E_MILLISECONDS_name, F_MILLISECONDS_ordinal, F_MILLISECONDS_scale, F_MILLISECONDS_maxNanos, F_MILLISECONDS_microRatio, F_MILLISECONDS_maxMicros, F_MILLISECONDS_milliRatio, F_MILLISECONDS_maxMillis, F_MILLISECONDS_secRatio, F_MILLISECONDS_maxSecs, S_FALSE, E_FALSE, F_FALSE_value, C_EMPTY_ELEMENTDATA, C_DEFAULTCAPACITY_EMPTY_ELEMENTDATA, B_cache⟩ := (id hE : EV Z a_EMPTY_ELEMENTDATA a_DEFAULTCAPACITY_EMPTY_ELEMENTDATA a_cache a_TRUE a_MILLISECONDS a_MILLISECONDS_name a_FALSE cl_cache)
  obtain ⟨k_DEF, A_DEF⟩ := C_DEFAULTCAPACITY_EMPTY_ELEMENTDATA.arv
  obtain ⟨_, _, ⟨T10, L10, k10, n10⟩, -, X10, ⟨Lc10, hQ10, l10, y10, z10⟩, st10⟩ := X00.specialBack hx (y := own_m0) rfl hown (mvT hZ (own_w hw 173 rfl)) (mvT hZ (own_w hw 174 rfl)) (mvT hZ (own_w hw 178 rfl)) (by decide) (backOf (W := 0) (rm_f1 l Z a0 hw [] a1 _ _ _ _ _ _ _ _ h0 n0 O0 hE) hZ (own_w hw 178 rfl) (own_w hw 177 rfl) (by decide) (by decide)) (g := (mkF m 1 #[.val (.ref a1), .val (.long p1), .second] [(.ref a1)])) rfl (by rw [hml]; rfl) (Steps.refl _) (a := a1) (argsL := []) (rest := []) (lenOf pd___V rfl) rfl (by show 2 * 0 + _ ≤ _; exact Nat.le_of_eq rfl) (hb hby d_jdk_35_method_26_code_1) (fun _ _ => ⟨rfl, e00, (by decide : 0 + 0 ≤ _), (by decide : 0 + 0 ≤ _)⟩)
  dsimp only [Pt.U, Pt.locs, Pt.cells, Pt.slots] at X10 l10 y10 z10 st10 hQ10
  subst l10 y10 z10
  obtain ⟨rfl, N10q, hp10⟩ := hQ10
  have N10 := Fr.app N00 N10q
  obtain ⟨T11, h11, X11, e11, W11, st11⟩ := putF X10 hx hZ hown (host := "") (Or.inl (own_w hw 101 rfl)) Via.refl hp10 F_value E_a1 (Or.inr ⟨(own_w hw 102 rfl), rfl, hnm⟩) (own_w hw 169 rfl) (ty := .long) (by decide) rfl rfl (g := (mkF m 6 #[.val (.ref a1), .val (.long p1), .second] [(.long p1), (.ref a1)])) rfl rfl (hb hby d_jdk_35_method_26_code_6)
  have F11_value := F_value.same W11
  have N11 := Fr.snoc X11 N10 g_a1
  have O11 := O0.wr W11 g_a1
  have K11 := K00.wr W11 (Or.inl (List.mem_of_getElem? (i := 0) rfl))
  have k12 : ∀ t, own_At p e below m T11 9 #[.val (.ref a1), .val (.long p1), .second] [] t → own_En p e below m s₁ #[(.ref a1), (.long p1)] 3 t := by
    intro t k
    refine k00 t ?_
    refine XS.aloadN X00.here hx rfl (hb hby d_jdk_35_method_26_code_0) rfl rfl ?_
    show own_At p e below m s₁ 1 #[.val (.ref a1), .val (.long p1), .second] [(.ref a1)] t
    refine st10.trans ?_
    show own_At p e below m T10 4 #[.val (.ref a1), .val (.long p1), .second] [] t
    refine XS.aloadN X10.here hx rfl (hb hby d_jdk_35_method_26_code_4) rfl rfl ?_
    show own_At p e below m T10 5 #[.val (.ref a1), .val (.long p1), .second] [(.ref a1)] t
    refine XS.lloadN X10.here hx rfl (hb hby d_jdk_35_method_26_code_5) rfl ?_
    show own_At p e below m T10 6 #[.val (.ref a1), .val (.long p1), .second] [(.long p1), (.ref a1)] t
    refine st11 _ ?_
    show own_At p e below m T11 9 #[.val (.ref a1), .val (.long p1), .second] [] t
    exact k
  have f13 := (E_a1.wr W11)
  obtain ⟨fs, hr, hrun, hended, hW, hsame⟩ := X11.leave (v := none) (fun _ => rfl)
  refine hNG ⟨_, _, k12 _ ?_, hrun, hended, _, _, rfl, ?_, ⟨_, rfl⟩, hW, hsame.mono (by decide) (by decide)⟩
  · exact X11.returnOut hx Bd.returns (hb hby d_jdk_35_method_26_code_9) hr
  · show Q_li Z a1 p1 a_EMPTY_ELEMENTDATA a_DEFAULTCAPACITY_EMPTY_ELEMENTDATA a_cache a_TRUE a_MILLISECONDS a_MILLISECONDS_name a_FALSE cl_cache h0 n0 _ T11.heap _
    rw [e11]
    exact ⟨rfl, N11, O11, K11, f13, F11_value⟩
theorem ef_lv (m : MethodId) (x0 : Int64)  : entryFrame m #[(.long x0)] 3 = mkF m 0 #[.val (.long x0), .second, .unset] [] := by first | (simp [entryFrame, mkF, argsToLocals, Value.category]; done) | rfl
theorem d_jdk_35_method_24_code_0 : decode jdk_35_method_24_code 0 = .ok (.sipush 128, 3) := by decide +kernel
theorem d_jdk_35_method_24_code_3 : decode jdk_35_method_24_code 3 = .ok (.istore_n 2, 1) := by decide +kernel
theorem d_jdk_35_method_24_code_4 : decode jdk_35_method_24_code 4 = .ok (.lload_n 0, 1) := by decide +kernel
theorem d_jdk_35_method_24_code_5 : decode jdk_35_method_24_code 5 = .ok (.ldc2_w 230, 3) := by decide +kernel
theorem d_jdk_35_method_24_code_8 : decode jdk_35_method_24_code 8 = .ok (.lcmp, 1) := by decide +kernel
theorem d_jdk_35_method_24_code_9 : decode jdk_35_method_24_code 9 = .ok (.ifCond .lt 22, 3) := by decide +kernel
theorem d_jdk_35_method_24_code_31 : decode jdk_35_method_24_code 31 = .ok (.new 1, 3) := by decide +kernel
theorem d_jdk_35_method_24_code_34 : decode jdk_35_method_24_code 34 = .ok (.dup, 1) := by decide +kernel
theorem d_jdk_35_method_24_code_35 : decode jdk_35_method_24_code 35 = .ok (.lload_n 0, 1) := by decide +kernel
theorem d_jdk_35_method_24_code_36 : decode jdk_35_method_24_code 36 = .ok (.invokespecial 240, 3) := by decide +kernel
theorem pd__J_V : parseMethodDescriptor "(J)V" = some ⟨[.long], none⟩ := by decide +kernel
theorem d_jdk_35_method_24_code_39 : decode jdk_35_method_24_code 39 = .ok (.areturn, 1) := by decide +kernel
theorem d_jdk_35_method_24_code_12 : decode jdk_35_method_24_code 12 = .ok (.lload_n 0, 1) := by decide +kernel
theorem d_jdk_35_method_24_code_13 : decode jdk_35_method_24_code 13 = .ok (.ldc2_w 232, 3) := by decide +kernel
theorem d_jdk_35_method_24_code_16 : decode jdk_35_method_24_code 16 = .ok (.lcmp, 1) := by decide +kernel
theorem d_jdk_35_method_24_code_17 : decode jdk_35_method_24_code 17 = .ok (.ifCond .gt 14, 3) := by decide +kernel
theorem d_jdk_35_method_24_code_20 : decode jdk_35_method_24_code 20 = .ok (.getstatic 234, 3) := by decide +kernel
theorem d_jdk_35_method_24_code_23 : decode jdk_35_method_24_code 23 = .ok (.lload_n 0, 1) := by decide +kernel
theorem d_jdk_35_method_24_code_24 : decode jdk_35_method_24_code 24 = .ok (.l2i, 1) := by decide +kernel
theorem d_jdk_35_method_24_code_25 : decode jdk_35_method_24_code 25 = .ok (.sipush 128, 3) := by decide +kernel
theorem d_jdk_35_method_24_code_28 : decode jdk_35_method_24_code 28 = .ok (.iadd, 1) := by decide +kernel
theorem d_jdk_35_method_24_code_29 : decode jdk_35_method_24_code 29 = .ok (.aaload, 1) := by decide +kernel
theorem d_jdk_35_method_24_code_30 : decode jdk_35_method_24_code 30 = .ok (.areturn, 1) := by decide +kernel
abbrev own_m2 : MethodName := ⟨"java/lang/Long", "valueOf", "(J)Ljava/lang/Long;"⟩
def Q_lv (Z : State) (q0 : Int64) (a_EMPTY_ELEMENTDATA : Addr) (a_DEFAULTCAPACITY_EMPTY_ELEMENTDATA : Addr) (a_cache : Addr) (a_TRUE : Addr) (a_MILLISECONDS : Addr) (a_MILLISECONDS_name : Addr) (a_FALSE : Addr) (cl_cache : Cell) (h0 : Heap) (n0 : Nat) (v : Option Value) (h : Heap) (L : List Loc) : Prop := ∃ (b : Addr), v = some (.ref b) ∧ Fr n0 L ∧ Old Z n0 h ∧ Keep h0 h [] ∧ Exa Z h b "java/lang/Long" ∧ Fld Z h b "java/lang/Long" "value" "J" (.long q0)
set_option maxRecDepth 65536 in
set_option maxHeartbeats 40000000 in
theorem rm_lv (l : Launch) (Z : State) (a0 : Array Value) (hw : ∀ d ∈ tables_1, d.before a0 Z = true) (ws : List Jvm.Cond) (q0 : Int64) (a_EMPTY_ELEMENTDATA : Addr) (a_DEFAULTCAPACITY_EMPTY_ELEMENTDATA : Addr) (a_cache : Addr) (a_TRUE : Addr) (a_MILLISECONDS : Addr) (a_MILLISECONDS_name : Addr) (a_FALSE : Addr) (cl_cache : Cell) (h0 : Heap) (n0 : Nat) (O0 : Old Z n0 h0) (hE : EV Z a_EMPTY_ELEMENTDATA a_DEFAULTCAPACITY_EMPTY_ELEMENTDATA a_cache a_TRUE a_MILLISECONDS a_MILLISECONDS_name a_FALSE cl_cache) :
    MetFree l own_m2 (head1 (Jvm.Cond.code own_m2 jdk_35_method_24_code 3 (some (.object "java/lang/Long")) :: ws) ({ frames := 3, cells := 1, slots := 1, locals := 39 } : Room)) (fun a U => a = #[(.long q0)] ∧ Z.Warmed39 U.vm ∧ U.heap = h0) (fun _ _ _ _ _ => True) (fun _ U o U' => ∃ v L, o = .returned v ∧ Q_lv Z q0 a_EMPTY_ELEMENTDATA a_DEFAULTCAPACITY_EMPTY_ELEMENTDATA a_cache a_TRUE a_MILLISECONDS a_MILLISECONDS_name a_FALSE cl_cache h0 n0 v U'.heap L ∧ FrameEnd U o U' L ({ frames := 3, cells := 1, slots := 1, locals := 39 } : Room).cells ({ frames := 3, cells := 1, slots := 1, locals := 39 } : Room).slots) := by
  refine MetFree.of_bodySF (plainFor_of_name pn_java_lang_Long) hisR ?_
  intro p e s m args below meth c s₁ Bd hml0 hP hK
  obtain ⟨rfl, hZ, hh⟩ := hP
  have hx := Bd.exec
  have hby := Bd.bytes
  have hml : c.maxLocals = 3 := hml0
  have hown : s.vm.findClass "java/lang/Long" = some m.cls := findClass_of_methodNamed Bd.named
  have hnm := (name_of_methodNamed Bd.named Bd.method).1
  have X00 : Stand p l e ({ frames := 3, cells := 1, slots := 1, locals := 39 } : Room) s m #[(.long q0)] below meth c s₁ [] 0 0 := Stand.of_body Bd
  have e00 : s₁.heap = h0 := by rw [← hh, Bd.state]; rfl
  have N00 := Fr.nil n0
  refine Classical.byContradiction fun hNG => ?_
  have K00 := Keep.refl h0 []
  have k00 : ∀ t, own_At p e below m s₁ 0 #[.val (.long q0), .second, .unset] [] t → own_En p e below m s₁ #[(.long q0)] 3 t := fun t k => castTop (ef_lv m q0 ) k
  obtain ⟨S_EMPTY_ELEMENTDATA, E_EMPTY_ELEMENTDATA, S_DEFAULTCAPACITY_EMPTY_ELEMENTDATA, E_DEFAULTCAPACITY_EMPTY_ELEMENTDATA, S_cache, E_cache, S_TRUE, E_TRUE, F_TRUE_value, S_MILLISECONDS, E_MILLISECONDS, F_MILLISECONDS_name, E_MILLISECONDS_name, F_MILLISECONDS_ordinal, F_MILLISECONDS_scale, F_MILLISECONDS_maxNanos, F_MILLISECONDS_microRatio, F_MILLISECONDS_maxMicros, F_MILLISECONDS_milliRatio, F_MILLISECONDS_maxMillis, F_MILLISECONDS_secRatio, F_MILLISECONDS_maxSecs, S_FALSE, E_FALSE, F_FALSE_value, C_EMPTY_ELEMENTDATA, C_DEFAULTCAPACITY_EMPTY_ELEMENTDATA, B_cache⟩ := (id hE : EV Z a_EMPTY_ELEMENTDATA a_DEFAULTCAPACITY_EMPTY_ELEMENTDATA a_cache a_TRUE a_MILLISECONDS a_MILLISECONDS_name a_FALSE cl_cache)
  obtain ⟨k_DEF, A_DEF⟩ := C_DEFAULTCAPACITY_EMPTY_ELEMENTDATA.arv
  have k10 : ∀ t, own_At p e below m s₁ 9 #[.val (.long q0), .second, .val (.int (128 : Int32))] [(.int (lcmpW q0 (-128 : Int64)))] t → own_En p e below m s₁ #[(.long q0)] 3 t := by
    intro t k
    refine k00 t ?_
    refine XS.sipush X00.here hx rfl (hb hby d_jdk_35_method_24_code_0) ?_
    show own_At p e below m s₁ 3 #[.val (.long q0), .second, .unset] [(.int (128 : Int32))] t
    refine XS.istoreN X00.here hx rfl (hb hby d_jdk_35_method_24_code_3) rfl (l' := #[.val (.long q0), .second, .val (.int (128 : Int32))]) rfl ?_
    show own_At p e below m s₁ 4 #[.val (.long q0), .second, .val (.int (128 : Int32))] [] t
    refine XS.lloadN X00.here hx rfl (hb hby d_jdk_35_method_24_code_4) rfl ?_
    show own_At p e below m s₁ 5 #[.val (.long q0), .second, .val (.int (128 : Int32))] [(.long q0)] t
    refine X00.ldc2J hx hown (mvT hZ (own_w hw 30 rfl)) rfl (hb hby d_jdk_35_method_24_code_5) ?_
    show own_At p e below m s₁ 8 #[.val (.long q0), .second, .val (.int (128 : Int32))] [(.long (-128 : Int64)), (.long q0)] t
    refine XS.lcmp X00.here hx rfl (hb hby d_jdk_35_method_24_code_8) rfl ?_
    show own_At p e below m s₁ 9 #[.val (.long q0), .second, .val (.int (128 : Int32))] [(.int (lcmpW q0 (-128 : Int64)))] t
    exact k
  by_cases hc11 : (lcmpW q0 (-128 : Int64)) < (0 : Int32)
  · obtain ⟨T12, h12, X12, e12, E12, A12, D12, -, st12⟩ := newO X00 hx hZ hown (own_w hw 168 rfl) (own_w hw 169 rfl) (own_w hw 28 rfl) e00 (g := (mkF m 31 #[.val (.long q0), .second, .val (.int (128 : Int32))] [])) rfl (hb hby d_jdk_35_method_24_code_31) (by decide) (by decide)
    obtain ⟨b12, g12⟩ : ∃ z, z = h0.size := ⟨_, rfl⟩
    rw [← g12] at A12 D12 st12
    have O12 := O0.ext E12
    have g_b12 : n0 ≤ b12 := Nat.le_trans (Nat.le_of_eq O0.1.symm) (Nat.le_trans O0.2.1 (Nat.le_of_eq g12.symm))
    have s_b12 : h0.size ≤ b12 := Nat.le_trans K00.1 (Nat.le_of_eq g12.symm)
    have K12 := K00.ext E12
    have lt_b12 := A12.lt
    have F12_value : Fld Z h12 b12 "java/lang/Long" "value" "J" (.long (0 : Int64)) := D12 (Or.inr (own_w hw 102 rfl)) (ty := .long) (by decide)
    obtain ⟨_, _, ⟨T13, L13, k13, n13⟩, -, X13, ⟨Lc13, hQ13, l13, y13, z13⟩, st13⟩ := X12.specialBack hx (y := own_m1) rfl hown (mvT hZ (own_w hw 170 rfl)) (mvT hZ (own_w hw 171 rfl)) (mvT hZ (own_w hw 172 rfl)) (by decide) (backOf (W := 1) (rm_li l Z a0 hw [] b12 q0 _ _ _ _ _ _ _ _ h12 n0 O12 hE F12_value A12 g_b12 ) hZ (own_w hw 172 rfl) (own_w hw 28 rfl) (by decide) (by decide)) (g := (mkF m 36 #[.val (.long q0), .second, .val (.int (128 : Int32))] [(.long q0), (.ref b12), (.ref b12)])) rfl (by rw [hml]; rfl) (Steps.refl _) (a := b12) (argsL := [(.long q0)]) (rest := [(.ref b12)]) (lenOf pd__J_V rfl) rfl (by show 2 * 0 + _ ≤ _; exact Nat.le_of_eq rfl) (hb hby d_jdk_35_method_24_code_36) (fun _ _ => ⟨rfl, e12, (by decide : 1 + 0 ≤ _), (by decide : 1 + 0 ≤ _)⟩)
    dsimp only [Pt.U, Pt.locs, Pt.cells, Pt.slots] at X13 l13 y13 z13 st13 hQ13
    subst l13 y13 z13
    obtain ⟨rfl, N13q, O13, Kc13, Ex13, G13_0⟩ := hQ13
    have N13 := Fr.app N00 N13q
    have K13 := K12.trans Kc13 (allS (Or.inr s_b12) all0)
    have k14 : ∀ t, own_At p e below m T13 39 #[.val (.long q0), .second, .val (.int (128 : Int32))] [(.ref b12)] t → own_En p e below m s₁ #[(.long q0)] 3 t := by
      intro t k
      refine k10 t ?_
      refine XS.ifYes X00.here hx rfl (pc0 := 9) (pc' := 31) rfl (hb hby d_jdk_35_method_24_code_9) rfl ((if0 _ _).trans (tlt hc11).1) (by decide) (by decide) ?_
      show own_At p e below m s₁ 31 #[.val (.long q0), .second, .val (.int (128 : Int32))] [] t
      refine st12 _ ?_
      show own_At p e below m T12 34 #[.val (.long q0), .second, .val (.int (128 : Int32))] [(.ref b12)] t
      refine XS.dup X12.here hx rfl (hb hby d_jdk_35_method_24_code_34) rfl rfl ?_
      show own_At p e below m T12 35 #[.val (.long q0), .second, .val (.int (128 : Int32))] [(.ref b12), (.ref b12)] t
      refine XS.lloadN X12.here hx rfl (hb hby d_jdk_35_method_24_code_35) rfl ?_
      show own_At p e below m T12 36 #[.val (.long q0), .second, .val (.int (128 : Int32))] [(.long q0), (.ref b12), (.ref b12)] t
      refine st13.trans ?_
      show own_At p e below m T13 39 #[.val (.long q0), .second, .val (.int (128 : Int32))] [(.ref b12)] t
      exact k
    obtain ⟨fs, hr, hrun, hended, hW, hsame⟩ := X13.leave (v := some (.ref b12)) (fun h => by rw [Bd.returns] at h; cases h)
    refine hNG ⟨_, _, k14 _ ?_, hrun, hended, _, _, rfl, ?_, ⟨_, rfl⟩, hW, hsame.mono (by decide) (by decide)⟩
    · exact retOut X13 hx (t := (.object "java/lang/Long")) Bd.returns rfl (Or.inr (Or.inr (Or.inr (Or.inr ⟨rfl, rfl, rfl⟩)))) (hb hby d_jdk_35_method_24_code_39) hr
    · show Q_lv Z q0 a_EMPTY_ELEMENTDATA a_DEFAULTCAPACITY_EMPTY_ELEMENTDATA a_cache a_TRUE a_MILLISECONDS a_MILLISECONDS_name a_FALSE cl_cache h0 n0 _ T13.heap _
      exact ⟨b12, rfl, N13, O13, K13, Ex13, G13_0⟩
  · have k15 : ∀ t, own_At p e below m s₁ 17 #[.val (.long q0), .second, .val (.int (128 : Int32))] [(.int (lcmpW q0 (127 : Int64)))] t → own_En p e below m s₁ #[(.long q0)] 3 t := by
      intro t k
      refine k10 t ?_
      refine XS.ifNo X00.here hx rfl (hb hby d_jdk_35_method_24_code_9) rfl ((if0 _ _).trans (flt hc11).1) ?_
      show own_At p e below m s₁ 12 #[.val (.long q0), .second, .val (.int (128 : Int32))] [] t
      refine XS.lloadN X00.here hx rfl (hb hby d_jdk_35_method_24_code_12) rfl ?_
      show own_At p e below m s₁ 13 #[.val (.long q0), .second, .val (.int (128 : Int32))] [(.long q0)] t
      refine X00.ldc2J hx hown (mvT hZ (own_w hw 31 rfl)) rfl (hb hby d_jdk_35_method_24_code_13) ?_
      show own_At p e below m s₁ 16 #[.val (.long q0), .second, .val (.int (128 : Int32))] [(.long (127 : Int64)), (.long q0)] t
      refine XS.lcmp X00.here hx rfl (hb hby d_jdk_35_method_24_code_16) rfl ?_
      show own_At p e below m s₁ 17 #[.val (.long q0), .second, .val (.int (128 : Int32))] [(.int (lcmpW q0 (127 : Int64)))] t
      exact k
    by_cases hc16 : (0 : Int32) < (lcmpW q0 (127 : Int64))
    · obtain ⟨T17, h17, X17, e17, E17, A17, D17, -, st17⟩ := newO X00 hx hZ hown (own_w hw 168 rfl) (own_w hw 169 rfl) (own_w hw 28 rfl) e00 (g := (mkF m 31 #[.val (.long q0), .second, .val (.int (128 : Int32))] [])) rfl (hb hby d_jdk_35_method_24_code_31) (by decide) (by decide)
      obtain ⟨b17, g17⟩ : ∃ z, z = h0.size := ⟨_, rfl⟩
      rw [← g17] at A17 D17 st17
      have O17 := O0.ext E17
      have g_b17 : n0 ≤ b17 := Nat.le_trans (Nat.le_of_eq O0.1.symm) (Nat.le_trans O0.2.1 (Nat.le_of_eq g17.symm))
      have s_b17 : h0.size ≤ b17 := Nat.le_trans K00.1 (Nat.le_of_eq g17.symm)
      have K17 := K00.ext E17
      have lt_b17 := A17.lt
      have F17_value : Fld Z h17 b17 "java/lang/Long" "value" "J" (.long (0 : Int64)) := D17 (Or.inr (own_w hw 102 rfl)) (ty := .long) (by decide)
      obtain ⟨_, _, ⟨T18, L18, k18, n18⟩, -, X18, ⟨Lc18, hQ18, l18, y18, z18⟩, st18⟩ := X17.specialBack hx (y := own_m1) rfl hown (mvT hZ (own_w hw 170 rfl)) (mvT hZ (own_w hw 171 rfl)) (mvT hZ (own_w hw 172 rfl)) (by decide) (backOf (W := 1) (rm_li l Z a0 hw [] b17 q0 _ _ _ _ _ _ _ _ h17 n0 O17 hE F17_value A17 g_b17 ) hZ (own_w hw 172 rfl) (own_w hw 28 rfl) (by decide) (by decide)) (g := (mkF m 36 #[.val (.long q0), .second, .val (.int (128 : Int32))] [(.long q0), (.ref b17), (.ref b17)])) rfl (by rw [hml]; rfl) (Steps.refl _) (a := b17) (argsL := [(.long q0)]) (rest := [(.ref b17)]) (lenOf pd__J_V rfl) rfl (by show 2 * 0 + _ ≤ _; exact Nat.le_of_eq rfl) (hb hby d_jdk_35_method_24_code_36) (fun _ _ => ⟨rfl, e17, (by decide : 1 + 0 ≤ _), (by decide : 1 + 0 ≤ _)⟩)
      dsimp only [Pt.U, Pt.locs, Pt.cells, Pt.slots] at X18 l18 y18 z18 st18 hQ18
      subst l18 y18 z18
      obtain ⟨rfl, N18q, O18, Kc18, Ex18, G18_0⟩ := hQ18
      have N18 := Fr.app N00 N18q
      have K18 := K17.trans Kc18 (allS (Or.inr s_b17) all0)
      have k19 : ∀ t, own_At p e below m T18 39 #[.val (.long q0), .second, .val (.int (128 : Int32))] [(.ref b17)] t → own_En p e below m s₁ #[(.long q0)] 3 t := by
        intro t k
        refine k15 t ?_
        refine XS.ifYes X00.here hx rfl (pc0 := 17) (pc' := 31) rfl (hb hby d_jdk_35_method_24_code_17) rfl ((if0 _ _).trans (tlt hc16).2.2.1) (by decide) (by decide) ?_
        show own_At p e below m s₁ 31 #[.val (.long q0), .second, .val (.int (128 : Int32))] [] t
        refine st17 _ ?_
        show own_At p e below m T17 34 #[.val (.long q0), .second, .val (.int (128 : Int32))] [(.ref b17)] t
        refine XS.dup X17.here hx rfl (hb hby d_jdk_35_method_24_code_34) rfl rfl ?_
        show own_At p e below m T17 35 #[.val (.long q0), .second, .val (.int (128 : Int32))] [(.ref b17), (.ref b17)] t
        refine XS.lloadN X17.here hx rfl (hb hby d_jdk_35_method_24_code_35) rfl ?_
        show own_At p e below m T17 36 #[.val (.long q0), .second, .val (.int (128 : Int32))] [(.long q0), (.ref b17), (.ref b17)] t
        refine st18.trans ?_
        show own_At p e below m T18 39 #[.val (.long q0), .second, .val (.int (128 : Int32))] [(.ref b17)] t
        exact k
      obtain ⟨fs, hr, hrun, hended, hW, hsame⟩ := X18.leave (v := some (.ref b17)) (fun h => by rw [Bd.returns] at h; cases h)
      refine hNG ⟨_, _, k19 _ ?_, hrun, hended, _, _, rfl, ?_, ⟨_, rfl⟩, hW, hsame.mono (by decide) (by decide)⟩
      · exact retOut X18 hx (t := (.object "java/lang/Long")) Bd.returns rfl (Or.inr (Or.inr (Or.inr (Or.inr ⟨rfl, rfl, rfl⟩)))) (hb hby d_jdk_35_method_24_code_39) hr
      · show Q_lv Z q0 a_EMPTY_ELEMENTDATA a_DEFAULTCAPACITY_EMPTY_ELEMENTDATA a_cache a_TRUE a_MILLISECONDS a_MILLISECONDS_name a_FALSE cl_cache h0 n0 _ T18.heap _
        exact ⟨b17, rfl, N18, O18, K18, Ex18, G18_0⟩
    · obtain ⟨T20, X20, e20, st20⟩ := getS2 X00 hx hZ hown (host := "") (Or.inl (own_w hw 32 rfl)) Via.refl e00 (S_cache.ext O0.2) (g := (mkF m 20 #[.val (.long q0), .second, .val (.int (128 : Int32))] [])) rfl (hb hby d_jdk_35_method_24_code_20)
      have rg := own_c1 hc11 hc16
      have hin29 : ¬ (((q0.toInt32) + (128 : Int32)) < 0 ∨ cl_cache.slots.size ≤ (((q0.toInt32) + (128 : Int32))).toNatClampNeg) := inb_of B_cache.2.1 (own_c3 rg)
      obtain ⟨bx, hat29, Ebx, Fbx⟩ := B_cache.2.2.2 _ hin29
      simp only [own_c4 rg] at Fbx
      have Ar29 := (B_cache.ext O0.2).1
      have k21 : ∀ t, own_At p e below m T20 30 #[.val (.long q0), .second, .val (.int (128 : Int32))] [(.ref bx)] t → own_En p e below m s₁ #[(.long q0)] 3 t := by
        intro t k
        refine k15 t ?_
        refine XS.ifNo X00.here hx rfl (hb hby d_jdk_35_method_24_code_17) rfl ((if0 _ _).trans (flt hc16).2.2.1) ?_
        show own_At p e below m s₁ 20 #[.val (.long q0), .second, .val (.int (128 : Int32))] [] t
        refine st20 _ ?_
        show own_At p e below m T20 23 #[.val (.long q0), .second, .val (.int (128 : Int32))] [(.ref a_cache)] t
        refine XS.lloadN X20.here hx rfl (hb hby d_jdk_35_method_24_code_23) rfl ?_
        show own_At p e below m T20 24 #[.val (.long q0), .second, .val (.int (128 : Int32))] [(.long q0), (.ref a_cache)] t
        refine XS.l2i X20.here hx rfl (hb hby d_jdk_35_method_24_code_24) rfl ?_
        show own_At p e below m T20 25 #[.val (.long q0), .second, .val (.int (128 : Int32))] [(.int (q0.toInt32)), (.ref a_cache)] t
        refine XS.sipush X20.here hx rfl (hb hby d_jdk_35_method_24_code_25) ?_
        show own_At p e below m T20 28 #[.val (.long q0), .second, .val (.int (128 : Int32))] [(.int (128 : Int32)), (.int (q0.toInt32)), (.ref a_cache)] t
        refine XS.iadd X20.here hx rfl (hb hby d_jdk_35_method_24_code_28) rfl ?_
        show own_At p e below m T20 29 #[.val (.long q0), .second, .val (.int (128 : Int32))] [(.int ((q0.toInt32) + (128 : Int32))), (.ref a_cache)] t
        refine X20.aaload hx (j := ((q0.toInt32) + (128 : Int32))) (v := .ref bx) (by rw [e20]; exact Ar29.1) (State.isArrayOf_alike hZ.alike Ar29.2.1) rfl Ar29.2.2 hin29 hat29 (g := (mkF m 29 #[.val (.long q0), .second, .val (.int (128 : Int32))] [(.int ((q0.toInt32) + (128 : Int32))), (.ref a_cache)])) rfl rfl (hb hby d_jdk_35_method_24_code_29) _ ?_
        show own_At p e below m T20 30 #[.val (.long q0), .second, .val (.int (128 : Int32))] [(.ref bx)] t
        exact k
      obtain ⟨fs, hr, hrun, hended, hW, hsame⟩ := X20.leave (v := some (.ref bx)) (fun h => by rw [Bd.returns] at h; cases h)
      refine hNG ⟨_, _, k21 _ ?_, hrun, hended, _, _, rfl, ?_, ⟨_, rfl⟩, hW, hsame.mono (by decide) (by decide)⟩
      · exact retOut X20 hx (t := (.object "java/lang/Long")) Bd.returns rfl (Or.inr (Or.inr (Or.inr (Or.inr ⟨rfl, rfl, rfl⟩)))) (hb hby d_jdk_35_method_24_code_30) hr
      · show Q_lv Z q0 a_EMPTY_ELEMENTDATA a_DEFAULTCAPACITY_EMPTY_ELEMENTDATA a_cache a_TRUE a_MILLISECONDS a_MILLISECONDS_name a_FALSE cl_cache h0 n0 _ T20.heap _
        rw [e20]
        exact ⟨bx, rfl, N00, O0, K00, Ebx.ext O0.2, Fbx.ext O0.2⟩
theorem ef_abl (m : MethodId) (x0 : Addr)  : entryFrame m #[(.ref x0)] 1 = mkF m 0 #[.val (.ref x0)] [] := by first | (simp [entryFrame, mkF, argsToLocals, Value.category]; done) | rfl
theorem d_jdk_39_method_1_code_0 : decode jdk_39_method_1_code 0 = .ok (.aload_n 0, 1) := by decide +kernel
theorem d_jdk_39_method_1_code_1 : decode jdk_39_method_1_code 1 = .ok (.invokespecial 1, 3) := by decide +kernel
theorem ef_f2 (m : MethodId) (x0 : Addr)  : entryFrame m #[(.ref x0)] 1 = mkF m 0 #[.val (.ref x0)] [] := by first | (simp [entryFrame, mkF, argsToLocals, Value.category]; done) | rfl
theorem d_jdk_22_method_1_code_0 : decode jdk_22_method_1_code 0 = .ok (.aload_n 0, 1) := by decide +kernel
theorem d_jdk_22_method_1_code_1 : decode jdk_22_method_1_code 1 = .ok (.invokespecial 1, 3) := by decide +kernel
theorem d_jdk_22_method_1_code_4 : decode jdk_22_method_1_code 4 = .ok (.return_, 1) := by decide +kernel
theorem pn_java_util_AbstractCollection : plainName "java/util/AbstractCollection" = true := by first | (simp [plainName, overriddenIn]; done) | decide +kernel
abbrev own_m3 : MethodName := ⟨"java/util/AbstractCollection", "<init>", "()V"⟩
def Q_f2 (Z : State) (q0 : Addr) (a_EMPTY_ELEMENTDATA : Addr) (a_DEFAULTCAPACITY_EMPTY_ELEMENTDATA : Addr) (a_cache : Addr) (a_TRUE : Addr) (a_MILLISECONDS : Addr) (a_MILLISECONDS_name : Addr) (a_FALSE : Addr) (cl_cache : Cell) (h0 : Heap) (n0 : Nat) (v : Option Value) (h : Heap) (L : List Loc) : Prop := v = none ∧ Fr n0 L ∧ h = h0
set_option maxRecDepth 65536 in
set_option maxHeartbeats 40000000 in
theorem rm_f2 (l : Launch) (Z : State) (a0 : Array Value) (hw : ∀ d ∈ tables_1, d.before a0 Z = true) (ws : List Jvm.Cond) (q0 : Addr) (a_EMPTY_ELEMENTDATA : Addr) (a_DEFAULTCAPACITY_EMPTY_ELEMENTDATA : Addr) (a_cache : Addr) (a_TRUE : Addr) (a_MILLISECONDS : Addr) (a_MILLISECONDS_name : Addr) (a_FALSE : Addr) (cl_cache : Cell) (h0 : Heap) (n0 : Nat) (O0 : Old Z n0 h0) (hE : EV Z a_EMPTY_ELEMENTDATA a_DEFAULTCAPACITY_EMPTY_ELEMENTDATA a_cache a_TRUE a_MILLISECONDS a_MILLISECONDS_name a_FALSE cl_cache) :
    MetFree l own_m3 (head1 (Jvm.Cond.code own_m3 jdk_22_method_1_code 1 none :: ws) ({ frames := 1, cells := 0, slots := 0, locals := 12 } : Room)) (fun a U => a = #[(.ref q0)] ∧ Z.Warmed39 U.vm ∧ U.heap = h0) (fun _ _ _ _ _ => True) (fun _ U o U' => ∃ v L, o = .returned v ∧ Q_f2 Z q0 a_EMPTY_ELEMENTDATA a_DEFAULTCAPACITY_EMPTY_ELEMENTDATA a_cache a_TRUE a_MILLISECONDS a_MILLISECONDS_name a_FALSE cl_cache h0 n0 v U'.heap L ∧ FrameEnd U o U' L ({ frames := 1, cells := 0, slots := 0, locals := 12 } : Room).cells ({ frames := 1, cells := 0, slots := 0, locals := 12 } : Room).slots) := by
  refine MetFree.of_bodySF (plainFor_of_name pn_java_util_AbstractCollection) hisR ?_
  intro p e s m args below meth c s₁ Bd hml0 hP hK
  obtain ⟨rfl, hZ, hh⟩ := hP
  have hx := Bd.exec
  have hby := Bd.bytes
  have hml : c.maxLocals = 1 := hml0
  have hown : s.vm.findClass "java/util/AbstractCollection" = some m.cls := findClass_of_methodNamed Bd.named
  have hnm := (name_of_methodNamed Bd.named Bd.method).1
  have X00 : Stand p l e ({ frames := 1, cells := 0, slots := 0, locals := 12 } : Room) s m #[(.ref q0)] below meth c s₁ [] 0 0 := Stand.of_body Bd
  have e00 : s₁.heap = h0 := by rw [← hh, Bd.state]; rfl
  have N00 := Fr.nil n0
  refine Classical.byContradiction fun hNG => ?_
  have K00 := Keep.refl h0 []
  have k00 : ∀ t, own_At p e below m s₁ 0 #[.val (.ref q0)] [] t → own_En p e below m s₁ #[(.ref q0)] 1 t := fun t k => castTop (ef_f2 m q0 ) k
  obtain ⟨S_EMPTY_ELEMENTDATA, E_EMPTY_ELEMENTDATA, S_DEFAULTCAPACITY_EMPTY_ELEMENTDATA, E_DEFAULTCAPACITY_EMPTY_ELEMENTDATA, S_cache, E_cache, S_TRUE, E_TRUE, F_TRUE_value, S_MILLISECONDS, E_MILLISECONDS, F_MILLISECONDS_name, E_MILLISECONDS_name, F_MILLISECONDS_ordinal, F_MILLISECONDS_scale, F_MILLISECONDS_maxNanos, F_MILLISECONDS_microRatio, F_MILLISECONDS_maxMicros, F_MILLISECONDS_milliRatio, F_MILLISECONDS_maxMillis, F_MILLISECONDS_secRatio, F_MILLISECONDS_maxSecs, S_FALSE, E_FALSE, F_FALSE_value, C_EMPTY_ELEMENTDATA, C_DEFAULTCAPACITY_EMPTY_ELEMENTDATA, B_cache⟩ := (id hE : EV Z a_EMPTY_ELEMENTDATA a_DEFAULTCAPACITY_EMPTY_ELEMENTDATA a_cache a_TRUE a_MILLISECONDS a_MILLISECONDS_name a_FALSE cl_cache)
  obtain ⟨k_DEF, A_DEF⟩ := C_DEFAULTCAPACITY_EMPTY_ELEMENTDATA.arv
  obtain ⟨T10, X10, e10, st10⟩ := initO X00 hx hZ hown (own_w hw 18 rfl) (own_w hw 19 rfl) (own_w hw 20 rfl) e00 (g := (mkF m 1 #[.val (.ref q0)] [(.ref q0)])) rfl (by rw [hml]; rfl) rfl (hb hby d_jdk_22_method_1_code_1) (by decide) (W := 0) (by show 2 * 0 + _ ≤ _; exact Nat.le_of_eq rfl) (by decide)
  have k11 : ∀ t, own_At p e below m T10 4 #[.val (.ref q0)] [] t → own_En p e below m s₁ #[(.ref q0)] 1 t := by
    intro t k
    refine k00 t ?_
    refine XS.aloadN X00.here hx rfl (hb hby d_jdk_22_method_1_code_0) rfl rfl ?_
    show own_At p e below m s₁ 1 #[.val (.ref q0)] [(.ref q0)] t
    refine st10 _ ?_
    show own_At p e below m T10 4 #[.val (.ref q0)] [] t
    exact k
  obtain ⟨fs, hr, hrun, hended, hW, hsame⟩ := X10.leave (v := none) (fun _ => rfl)
  refine hNG ⟨_, _, k11 _ ?_, hrun, hended, _, _, rfl, ?_, ⟨_, rfl⟩, hW, hsame.mono (by decide) (by decide)⟩
  · exact X10.returnOut hx Bd.returns (hb hby d_jdk_22_method_1_code_4) hr
  · show Q_f2 Z q0 a_EMPTY_ELEMENTDATA a_DEFAULTCAPACITY_EMPTY_ELEMENTDATA a_cache a_TRUE a_MILLISECONDS a_MILLISECONDS_name a_FALSE cl_cache h0 n0 _ T10.heap _
    rw [e10]
    exact ⟨rfl, N00, rfl⟩
theorem d_jdk_39_method_1_code_4 : decode jdk_39_method_1_code 4 = .ok (.aload_n 0, 1) := by decide +kernel
theorem d_jdk_39_method_1_code_5 : decode jdk_39_method_1_code 5 = .ok (.iconst 0, 1) := by decide +kernel
theorem d_jdk_39_method_1_code_6 : decode jdk_39_method_1_code 6 = .ok (.putfield 7, 3) := by decide +kernel
theorem d_jdk_39_method_1_code_9 : decode jdk_39_method_1_code 9 = .ok (.return_, 1) := by decide +kernel
theorem pn_java_util_AbstractList : plainName "java/util/AbstractList" = true := by first | (simp [plainName, overriddenIn]; done) | decide +kernel
abbrev own_m4 : MethodName := ⟨"java/util/AbstractList", "<init>", "()V"⟩
def Q_abl (Z : State) (a1 : Addr) (a_EMPTY_ELEMENTDATA : Addr) (a_DEFAULTCAPACITY_EMPTY_ELEMENTDATA : Addr) (a_cache : Addr) (a_TRUE : Addr) (a_MILLISECONDS : Addr) (a_MILLISECONDS_name : Addr) (a_FALSE : Addr) (cl_cache : Cell) (h0 : Heap) (n0 : Nat) (v : Option Value) (h : Heap) (L : List Loc) : Prop := v = none ∧ Fr n0 L ∧ Old Z n0 h ∧ Keep h0 h [a1] ∧ Exa Z h a1 "java/util/ArrayList" ∧ Fld Z h a1 "java/util/AbstractList" "modCount" "I" (.int (0 : Int32)) ∧ Fld Z h a1 "java/util/ArrayList" "elementData" "[Ljava/lang/Object;" .null ∧ Fld Z h a1 "java/util/ArrayList" "size" "I" (.int (0 : Int32))
set_option maxRecDepth 65536 in
set_option maxHeartbeats 40000000 in
theorem rm_abl (l : Launch) (Z : State) (a0 : Array Value) (hw : ∀ d ∈ tables_1, d.before a0 Z = true) (ws : List Jvm.Cond) (a1 : Addr) (a_EMPTY_ELEMENTDATA : Addr) (a_DEFAULTCAPACITY_EMPTY_ELEMENTDATA : Addr) (a_cache : Addr) (a_TRUE : Addr) (a_MILLISECONDS : Addr) (a_MILLISECONDS_name : Addr) (a_FALSE : Addr) (cl_cache : Cell) (h0 : Heap) (n0 : Nat) (O0 : Old Z n0 h0) (hE : EV Z a_EMPTY_ELEMENTDATA a_DEFAULTCAPACITY_EMPTY_ELEMENTDATA a_cache a_TRUE a_MILLISECONDS a_MILLISECONDS_name a_FALSE cl_cache) (F_modCount : Fld Z h0 a1 "java/util/AbstractList" "modCount" "I" (.int (0 : Int32))) (F_elementData : Fld Z h0 a1 "java/util/ArrayList" "elementData" "[Ljava/lang/Object;" .null) (F_size : Fld Z h0 a1 "java/util/ArrayList" "size" "I" (.int (0 : Int32))) (E_a1 : Exa Z h0 a1 "java/util/ArrayList") (g_a1 : n0 ≤ a1) :
    MetFree l own_m4 (head1 (Jvm.Cond.code own_m4 jdk_39_method_1_code 1 none :: ws) ({ frames := 2, cells := 0, slots := 0, locals := 24 } : Room)) (fun a U => a = #[(.ref a1)] ∧ Z.Warmed39 U.vm ∧ U.heap = h0) (fun _ _ _ _ _ => True) (fun _ U o U' => ∃ v L, o = .returned v ∧ Q_abl Z a1 a_EMPTY_ELEMENTDATA a_DEFAULTCAPACITY_EMPTY_ELEMENTDATA a_cache a_TRUE a_MILLISECONDS a_MILLISECONDS_name a_FALSE cl_cache h0 n0 v U'.heap L ∧ FrameEnd U o U' L ({ frames := 2, cells := 0, slots := 0, locals := 24 } : Room).cells ({ frames := 2, cells := 0, slots := 0, locals := 24 } : Room).slots) := by
  refine MetFree.of_bodySF (plainFor_of_name pn_java_util_AbstractList) hisR ?_
  intro p e s m args below meth c s₁ Bd hml0 hP hK
  obtain ⟨rfl, hZ, hh⟩ := hP
  have hx := Bd.exec
  have hby := Bd.bytes
  have hml : c.maxLocals = 1 := hml0
  have hown : s.vm.findClass "java/util/AbstractList" = some m.cls := findClass_of_methodNamed Bd.named
  have hnm := (name_of_methodNamed Bd.named Bd.method).1
  have X00 : Stand p l e ({ frames := 2, cells := 0, slots := 0, locals := 24 } : Room) s m #[(.ref a1)] below meth c s₁ [] 0 0 := Stand.of_body Bd
  have e00 : s₁.heap = h0 := by rw [← hh, Bd.state]; rfl
  have N00 := Fr.nil n0
  refine Classical.byContradiction fun hNG => ?_
  have K00 := Keep.refl h0 [a1]
  have k00 : ∀ t, own_At p e below m s₁ 0 #[.val (.ref a1)] [] t → own_En p e below m s₁ #[(.ref a1)] 1 t := fun t k => castTop (ef_abl m a1 ) k
  obtain ⟨S_EMPTY_ELEMENTDATA, E_EMPTY_ELEMENTDATA, S_DEFAULTCAPACITY_EMPTY_ELEMENTDATA, E_DEFAULTCAPACITY_EMPTY_ELEMENTDATA, S_cache, E_cache, S_TRUE, E_TRUE, F_TRUE_value, S_MILLISECONDS, E_MILLISECONDS, F_MILLISECONDS_name, E_MILLISECONDS_name, F_MILLISECONDS_ordinal, F_MILLISECONDS_scale, F_MILLISECONDS_maxNanos, F_MILLISECONDS_microRatio, F_MILLISECONDS_maxMicros, F_MILLISECONDS_milliRatio, F_MILLISECONDS_maxMillis, F_MILLISECONDS_secRatio, F_MILLISECONDS_maxSecs, S_FALSE, E_FALSE, F_FALSE_value, C_EMPTY_ELEMENTDATA, C_DEFAULTCAPACITY_EMPTY_ELEMENTDATA, B_cache⟩ := (id hE : EV Z a_EMPTY_ELEMENTDATA a_DEFAULTCAPACITY_EMPTY_ELEMENTDATA a_cache a_TRUE a_MILLISECONDS a_MILLISECONDS_name a_FALSE cl_cache)
  obtain ⟨k_DEF, A_DEF⟩ := C_DEFAULTCAPACITY_EMPTY_ELEMENTDATA.arv
  obtain ⟨_, _, ⟨T10, L10, k10, n10⟩, -, X10, ⟨Lc10, hQ10, l10, y10, z10⟩, st10⟩ := X00.specialBack hx (y := own_m3) rfl hown (mvT hZ (own_w hw 12 rfl)) (mvT hZ (own_w hw 13 rfl)) (mvT hZ (own_w hw 17 rfl)) (by decide) (backOf (W := 0) (rm_f2 l Z a0 hw [] a1 _ _ _ _ _ _ _ _ h0 n0 O0 hE) hZ (own_w hw 17 rfl) (own_w hw 16 rfl) (by decide) (by decide)) (g := (mkF m 1 #[.val (.ref a1)] [(.ref a1)])) rfl (by rw [hml]; rfl) (Steps.refl _) (a := a1) (argsL := []) (rest := []) (lenOf pd___V rfl) rfl (by show 2 * 0 + _ ≤ _; exact Nat.le_of_eq rfl) (hb hby d_jdk_39_method_1_code_1) (fun _ _ => ⟨rfl, e00, (by decide : 0 + 0 ≤ _), (by decide : 0 + 0 ≤ _)⟩)
  dsimp only [Pt.U, Pt.locs, Pt.cells, Pt.slots] at X10 l10 y10 z10 st10 hQ10
  subst l10 y10 z10
  obtain ⟨rfl, N10q, hp10⟩ := hQ10
  have N10 := Fr.app N00 N10q
  obtain ⟨T11, h11, X11, e11, W11, st11⟩ := putF X10 hx hZ hown (host := "") (Or.inl (own_w hw 21 rfl)) Via.refl hp10 F_modCount E_a1 (Or.inl (own_w hw 22 rfl)) (own_w hw 1 rfl) (ty := .int) (by decide) rfl rfl (g := (mkF m 6 #[.val (.ref a1)] [(.int (0 : Int32)), (.ref a1)])) rfl rfl (hb hby d_jdk_39_method_1_code_6)
  have F11_modCount := F_modCount.same W11
  have N11 := Fr.snoc X11 N10 g_a1
  have O11 := O0.wr W11 g_a1
  have K11 := K00.wr W11 (Or.inl (List.mem_of_getElem? (i := 0) rfl))
  have k12 : ∀ t, own_At p e below m T11 9 #[.val (.ref a1)] [] t → own_En p e below m s₁ #[(.ref a1)] 1 t := by
    intro t k
    refine k00 t ?_
    refine XS.aloadN X00.here hx rfl (hb hby d_jdk_39_method_1_code_0) rfl rfl ?_
    show own_At p e below m s₁ 1 #[.val (.ref a1)] [(.ref a1)] t
    refine st10.trans ?_
    show own_At p e below m T10 4 #[.val (.ref a1)] [] t
    refine XS.aloadN X10.here hx rfl (hb hby d_jdk_39_method_1_code_4) rfl rfl ?_
    show own_At p e below m T10 5 #[.val (.ref a1)] [(.ref a1)] t
    refine XS.iconst X10.here hx rfl (hb hby d_jdk_39_method_1_code_5) ?_
    show own_At p e below m T10 6 #[.val (.ref a1)] [(.int (0 : Int32)), (.ref a1)] t
    refine st11 _ ?_
    show own_At p e below m T11 9 #[.val (.ref a1)] [] t
    exact k
  have f13 := (F_elementData.other W11 (Or.inr (slot_ne (Or.inl (own_w hw 25 rfl)) (Or.inl (own_w hw 22 rfl)) (by decide) (t := (.array (.object "java/lang/Object"))) (t' := .int) (by decide) (by decide))))
  have f14 := (F_size.other W11 (Or.inr (slot_ne (Or.inl (own_w hw 46 rfl)) (Or.inl (own_w hw 22 rfl)) (by decide) (t := .int) (t' := .int) (by decide) (by decide))))
  have f15 := (E_a1.wr W11)
  obtain ⟨fs, hr, hrun, hended, hW, hsame⟩ := X11.leave (v := none) (fun _ => rfl)
  refine hNG ⟨_, _, k12 _ ?_, hrun, hended, _, _, rfl, ?_, ⟨_, rfl⟩, hW, hsame.mono (by decide) (by decide)⟩
  · exact X11.returnOut hx Bd.returns (hb hby d_jdk_39_method_1_code_9) hr
  · show Q_abl Z a1 a_EMPTY_ELEMENTDATA a_DEFAULTCAPACITY_EMPTY_ELEMENTDATA a_cache a_TRUE a_MILLISECONDS a_MILLISECONDS_name a_FALSE cl_cache h0 n0 _ T11.heap _
    rw [e11]
    exact ⟨rfl, N11, O11, K11, f15, F11_modCount, f13, f14⟩
theorem ef_ali (m : MethodId) (x0 : Addr)  : entryFrame m #[(.ref x0)] 1 = mkF m 0 #[.val (.ref x0)] [] := by first | (simp [entryFrame, mkF, argsToLocals, Value.category]; done) | rfl
theorem d_jdk_38_method_2_code_0 : decode jdk_38_method_2_code 0 = .ok (.aload_n 0, 1) := by decide +kernel
theorem d_jdk_38_method_2_code_1 : decode jdk_38_method_2_code 1 = .ok (.invokespecial 1, 3) := by decide +kernel
theorem d_jdk_38_method_2_code_4 : decode jdk_38_method_2_code 4 = .ok (.aload_n 0, 1) := by decide +kernel
theorem d_jdk_38_method_2_code_5 : decode jdk_38_method_2_code 5 = .ok (.getstatic 39, 3) := by decide +kernel
theorem d_jdk_38_method_2_code_8 : decode jdk_38_method_2_code 8 = .ok (.putfield 9, 3) := by decide +kernel
theorem d_jdk_38_method_2_code_11 : decode jdk_38_method_2_code 11 = .ok (.return_, 1) := by decide +kernel
theorem pn_java_util_ArrayList : plainName "java/util/ArrayList" = true := by first | (simp [plainName, overriddenIn]; done) | decide +kernel
abbrev own_m5 : MethodName := ⟨"java/util/ArrayList", "<init>", "()V"⟩
def Q_ali (Z : State) (a1 : Addr) (a_EMPTY_ELEMENTDATA : Addr) (a_DEFAULTCAPACITY_EMPTY_ELEMENTDATA : Addr) (a_cache : Addr) (a_TRUE : Addr) (a_MILLISECONDS : Addr) (a_MILLISECONDS_name : Addr) (a_FALSE : Addr) (cl_cache : Cell) (h0 : Heap) (n0 : Nat) (v : Option Value) (h : Heap) (L : List Loc) : Prop := v = none ∧ Fr n0 L ∧ Old Z n0 h ∧ Keep h0 h [a1] ∧ Exa Z h a1 "java/util/ArrayList" ∧ Fld Z h a1 "java/util/AbstractList" "modCount" "I" (.int (0 : Int32)) ∧ Fld Z h a1 "java/util/ArrayList" "elementData" "[Ljava/lang/Object;" (.ref a_DEFAULTCAPACITY_EMPTY_ELEMENTDATA) ∧ Fld Z h a1 "java/util/ArrayList" "size" "I" (.int (0 : Int32))
set_option maxRecDepth 65536 in
set_option maxHeartbeats 40000000 in
theorem rm_ali (l : Launch) (Z : State) (a0 : Array Value) (hw : ∀ d ∈ tables_1, d.before a0 Z = true) (ws : List Jvm.Cond) (a1 : Addr) (a_EMPTY_ELEMENTDATA : Addr) (a_DEFAULTCAPACITY_EMPTY_ELEMENTDATA : Addr) (a_cache : Addr) (a_TRUE : Addr) (a_MILLISECONDS : Addr) (a_MILLISECONDS_name : Addr) (a_FALSE : Addr) (cl_cache : Cell) (h0 : Heap) (n0 : Nat) (O0 : Old Z n0 h0) (hE : EV Z a_EMPTY_ELEMENTDATA a_DEFAULTCAPACITY_EMPTY_ELEMENTDATA a_cache a_TRUE a_MILLISECONDS a_MILLISECONDS_name a_FALSE cl_cache) (F_modCount : Fld Z h0 a1 "java/util/AbstractList" "modCount" "I" (.int (0 : Int32))) (F_elementData : Fld Z h0 a1 "java/util/ArrayList" "elementData" "[Ljava/lang/Object;" .null) (F_size : Fld Z h0 a1 "java/util/ArrayList" "size" "I" (.int (0 : Int32))) (E_a1 : Exa Z h0 a1 "java/util/ArrayList") (g_a1 : n0 ≤ a1) :
    MetFree l own_m5 (head1 (Jvm.Cond.code own_m5 jdk_38_method_2_code 1 none :: ws) ({ frames := 3, cells := 0, slots := 0, locals := 36 } : Room)) (fun a U => a = #[(.ref a1)] ∧ Z.Warmed39 U.vm ∧ U.heap = h0) (fun _ _ _ _ _ => True) (fun _ U o U' => ∃ v L, o = .returned v ∧ Q_ali Z a1 a_EMPTY_ELEMENTDATA a_DEFAULTCAPACITY_EMPTY_ELEMENTDATA a_cache a_TRUE a_MILLISECONDS a_MILLISECONDS_name a_FALSE cl_cache h0 n0 v U'.heap L ∧ FrameEnd U o U' L ({ frames := 3, cells := 0, slots := 0, locals := 36 } : Room).cells ({ frames := 3, cells := 0, slots := 0, locals := 36 } : Room).slots) := by
  refine MetFree.of_bodySF (plainFor_of_name pn_java_util_ArrayList) hisR ?_
  intro p e s m args below meth c s₁ Bd hml0 hP hK
  obtain ⟨rfl, hZ, hh⟩ := hP
  have hx := Bd.exec
  have hby := Bd.bytes
  have hml : c.maxLocals = 1 := hml0
  have hown : s.vm.findClass "java/util/ArrayList" = some m.cls := findClass_of_methodNamed Bd.named
  have hnm := (name_of_methodNamed Bd.named Bd.method).1
  have X00 : Stand p l e ({ frames := 3, cells := 0, slots := 0, locals := 36 } : Room) s m #[(.ref a1)] below meth c s₁ [] 0 0 := Stand.of_body Bd
  have e00 : s₁.heap = h0 := by rw [← hh, Bd.state]; rfl
  have N00 := Fr.nil n0
  refine Classical.byContradiction fun hNG => ?_
  have K00 := Keep.refl h0 [a1]
  have k00 : ∀ t, own_At p e below m s₁ 0 #[.val (.ref a1)] [] t → own_En p e below m s₁ #[(.ref a1)] 1 t := fun t k => castTop (ef_ali m a1 ) k
  obtain ⟨S_EMPTY_ELEMENTDATA, E_EMPTY_ELEMENTDATA, S_DEFAULTCAPACITY_EMPTY_ELEMENTDATA, E_DEFAULTCAPACITY_EMPTY_ELEMENTDATA, S_cache, E_cache, S_TRUE, E_TRUE, F_TRUE_value, S_MILLISECONDS, E_MILLISECONDS, F_MILLISECONDS_name, E_MILLISECONDS_name, F_MILLISECONDS_ordinal, F_MILLISECONDS_scale, F_MILLISECONDS_maxNanos, F_MILLISECONDS_microRatio, F_MILLISECONDS_maxMicros, F_MILLISECONDS_milliRatio, F_MILLISECONDS_maxMillis, F_MILLISECONDS_secRatio, F_MILLISECONDS_maxSecs, S_FALSE, E_FALSE, F_FALSE_value, C_EMPTY_ELEMENTDATA, C_DEFAULTCAPACITY_EMPTY_ELEMENTDATA, B_cache⟩ := (id hE : EV Z a_EMPTY_ELEMENTDATA a_DEFAULTCAPACITY_EMPTY_ELEMENTDATA a_cache a_TRUE a_MILLISECONDS a_MILLISECONDS_name a_FALSE cl_cache)
  obtain ⟨k_DEF, A_DEF⟩ := C_DEFAULTCAPACITY_EMPTY_ELEMENTDATA.arv
  obtain ⟨_, _, ⟨T10, L10, k10, n10⟩, -, X10, ⟨Lc10, hQ10, l10, y10, z10⟩, st10⟩ := X00.specialBack hx (y := own_m4) rfl hown (mvT hZ (own_w hw 6 rfl)) (mvT hZ (own_w hw 7 rfl)) (mvT hZ (own_w hw 11 rfl)) (by decide) (backOf (W := 0) (rm_abl l Z a0 hw [] a1 _ _ _ _ _ _ _ _ h0 n0 O0 hE F_modCount F_elementData F_size E_a1 g_a1 ) hZ (own_w hw 11 rfl) (own_w hw 10 rfl) (by decide) (by decide)) (g := (mkF m 1 #[.val (.ref a1)] [(.ref a1)])) rfl (by rw [hml]; rfl) (Steps.refl _) (a := a1) (argsL := []) (rest := []) (lenOf pd___V rfl) rfl (by show 2 * 0 + _ ≤ _; exact Nat.le_of_eq rfl) (hb hby d_jdk_38_method_2_code_1) (fun _ _ => ⟨rfl, e00, (by decide : 0 + 0 ≤ _), (by decide : 0 + 0 ≤ _)⟩)
  dsimp only [Pt.U, Pt.locs, Pt.cells, Pt.slots] at X10 l10 y10 z10 st10 hQ10
  subst l10 y10 z10
  obtain ⟨rfl, N10q, O10, Kc10, Ex10, G10_0, G10_1, G10_2⟩ := hQ10
  have N10 := Fr.app N00 N10q
  have K10 := K00.trans Kc10 (allS (Or.inl (List.mem_of_getElem? (i := 0) rfl)) all0)
  obtain ⟨T11, X11, e11, st11⟩ := getS2 X10 hx hZ hown (host := "") (Or.inl (own_w hw 23 rfl)) Via.refl rfl (S_DEFAULTCAPACITY_EMPTY_ELEMENTDATA.ext O10.2) (g := (mkF m 5 #[.val (.ref a1)] [(.ref a1)])) rfl (hb hby d_jdk_38_method_2_code_5)
  obtain ⟨T12, h12, X12, e12, W12, st12⟩ := putF X11 hx hZ hown (host := "") (Or.inl (own_w hw 24 rfl)) Via.refl e11 G10_1 Ex10 (Or.inl (own_w hw 25 rfl)) (own_w hw 1 rfl) (ty := (.array (.object "java/lang/Object"))) (by decide) rfl rfl (g := (mkF m 8 #[.val (.ref a1)] [(.ref a_DEFAULTCAPACITY_EMPTY_ELEMENTDATA), (.ref a1)])) rfl rfl (hb hby d_jdk_38_method_2_code_8)
  have F12_elementData := G10_1.same W12
  have N12 := Fr.snoc X12 N10 g_a1
  have O12 := O10.wr W12 g_a1
  have K12 := K10.wr W12 (Or.inl (List.mem_of_getElem? (i := 0) rfl))
  have k13 : ∀ t, own_At p e below m T12 11 #[.val (.ref a1)] [] t → own_En p e below m s₁ #[(.ref a1)] 1 t := by
    intro t k
    refine k00 t ?_
    refine XS.aloadN X00.here hx rfl (hb hby d_jdk_38_method_2_code_0) rfl rfl ?_
    show own_At p e below m s₁ 1 #[.val (.ref a1)] [(.ref a1)] t
    refine st10.trans ?_
    show own_At p e below m T10 4 #[.val (.ref a1)] [] t
    refine XS.aloadN X10.here hx rfl (hb hby d_jdk_38_method_2_code_4) rfl rfl ?_
    show own_At p e below m T10 5 #[.val (.ref a1)] [(.ref a1)] t
    refine st11 _ ?_
    show own_At p e below m T11 8 #[.val (.ref a1)] [(.ref a_DEFAULTCAPACITY_EMPTY_ELEMENTDATA), (.ref a1)] t
    refine st12 _ ?_
    show own_At p e below m T12 11 #[.val (.ref a1)] [] t
    exact k
  have f14 := (G10_0.other W12 (Or.inr (slot_ne (Or.inl (own_w hw 22 rfl)) (Or.inl (own_w hw 25 rfl)) (by decide) (t := .int) (t' := (.array (.object "java/lang/Object"))) (by decide) (by decide))))
  have f15 := (G10_2.other W12 (Or.inr (slot_ne (Or.inl (own_w hw 46 rfl)) (Or.inl (own_w hw 25 rfl)) (by decide) (t := .int) (t' := (.array (.object "java/lang/Object"))) (by decide) (by decide))))
  have f16 := (Ex10.wr W12)
  obtain ⟨fs, hr, hrun, hended, hW, hsame⟩ := X12.leave (v := none) (fun _ => rfl)
  refine hNG ⟨_, _, k13 _ ?_, hrun, hended, _, _, rfl, ?_, ⟨_, rfl⟩, hW, hsame.mono (by decide) (by decide)⟩
  · exact X12.returnOut hx Bd.returns (hb hby d_jdk_38_method_2_code_11) hr
  · show Q_ali Z a1 a_EMPTY_ELEMENTDATA a_DEFAULTCAPACITY_EMPTY_ELEMENTDATA a_cache a_TRUE a_MILLISECONDS a_MILLISECONDS_name a_FALSE cl_cache h0 n0 _ T12.heap _
    rw [e12]
    exact ⟨rfl, N12, O12, K12, f16, f14, F12_elementData, f15⟩
theorem ef_gi (m : MethodId) (x0 : Addr) (x1 : Int32)  : entryFrame m #[(.ref x0), (.int x1)] 4 = mkF m 0 #[.val (.ref x0), .val (.int x1), .unset, .unset] [] := by first | (simp [entryFrame, mkF, argsToLocals, Value.category]; done) | rfl
theorem d_jdk_38_method_6_code_0 : decode jdk_38_method_6_code 0 = .ok (.aload_n 0, 1) := by decide +kernel
theorem d_jdk_38_method_6_code_1 : decode jdk_38_method_6_code 1 = .ok (.getfield 9, 3) := by decide +kernel
theorem d_jdk_38_method_6_code_4 : decode jdk_38_method_6_code 4 = .ok (.arraylength, 1) := by decide +kernel
theorem d_jdk_38_method_6_code_5 : decode jdk_38_method_6_code 5 = .ok (.istore_n 2, 1) := by decide +kernel
theorem d_jdk_38_method_6_code_6 : decode jdk_38_method_6_code 6 = .ok (.iload_n 2, 1) := by decide +kernel
theorem d_jdk_38_method_6_code_7 : decode jdk_38_method_6_code 7 = .ok (.ifCond .gt 13, 3) := by decide +kernel
theorem d_jdk_38_method_6_code_10 : decode jdk_38_method_6_code 10 = .ok (.aload_n 0, 1) := by decide +kernel
theorem d_jdk_38_method_6_code_11 : decode jdk_38_method_6_code 11 = .ok (.getfield 9, 3) := by decide +kernel
theorem d_jdk_38_method_6_code_14 : decode jdk_38_method_6_code 14 = .ok (.getstatic 39, 3) := by decide +kernel
theorem d_jdk_38_method_6_code_17 : decode jdk_38_method_6_code 17 = .ok (.if_acmp .eq 28, 3) := by decide +kernel
theorem d_jdk_38_method_6_code_45 : decode jdk_38_method_6_code 45 = .ok (.aload_n 0, 1) := by decide +kernel
theorem d_jdk_38_method_6_code_46 : decode jdk_38_method_6_code 46 = .ok (.bipush 10, 2) := by decide +kernel
theorem d_jdk_38_method_6_code_48 : decode jdk_38_method_6_code 48 = .ok (.iload_n 1, 1) := by decide +kernel
theorem d_jdk_38_method_6_code_49 : decode jdk_38_method_6_code 49 = .ok (.invokestatic 79, 3) := by decide +kernel
theorem ef_f3 (m : MethodId) (x0 : Int32) (x1 : Int32)  : entryFrame m #[(.int x0), (.int x1)] 2 = mkF m 0 #[.val (.int x0), .val (.int x1)] [] := by first | (simp [entryFrame, mkF, argsToLocals, Value.category]; done) | rfl
theorem d_jdk_29_method_65_code_0 : decode jdk_29_method_65_code 0 = .ok (.iload_n 0, 1) := by decide +kernel
theorem d_jdk_29_method_65_code_1 : decode jdk_29_method_65_code 1 = .ok (.iload_n 1, 1) := by decide +kernel
theorem d_jdk_29_method_65_code_2 : decode jdk_29_method_65_code 2 = .ok (.if_icmp .lt 7, 3) := by decide +kernel
theorem d_jdk_29_method_65_code_5 : decode jdk_29_method_65_code 5 = .ok (.iload_n 0, 1) := by decide +kernel
theorem d_jdk_29_method_65_code_6 : decode jdk_29_method_65_code 6 = .ok (.goto 4, 3) := by decide +kernel
theorem d_jdk_29_method_65_code_10 : decode jdk_29_method_65_code 10 = .ok (.ireturn, 1) := by decide +kernel
abbrev own_m6 : MethodName := ⟨"java/lang/Math", "max", "(II)I"⟩
def Q_f3 (Z : State) (a_EMPTY_ELEMENTDATA : Addr) (a_DEFAULTCAPACITY_EMPTY_ELEMENTDATA : Addr) (a_cache : Addr) (a_TRUE : Addr) (a_MILLISECONDS : Addr) (a_MILLISECONDS_name : Addr) (a_FALSE : Addr) (cl_cache : Cell) (h0 : Heap) (n0 : Nat) (v : Option Value) (h : Heap) (L : List Loc) : Prop := v = some (.int (10 : Int32)) ∧ Fr n0 L ∧ h = h0
set_option maxRecDepth 65536 in
set_option maxHeartbeats 40000000 in
theorem rm_f3 (l : Launch) (Z : State) (a0 : Array Value) (hw : ∀ d ∈ tables_1, d.before a0 Z = true) (ws : List Jvm.Cond) (a_EMPTY_ELEMENTDATA : Addr) (a_DEFAULTCAPACITY_EMPTY_ELEMENTDATA : Addr) (a_cache : Addr) (a_TRUE : Addr) (a_MILLISECONDS : Addr) (a_MILLISECONDS_name : Addr) (a_FALSE : Addr) (cl_cache : Cell) (h0 : Heap) (n0 : Nat) (O0 : Old Z n0 h0) (hE : EV Z a_EMPTY_ELEMENTDATA a_DEFAULTCAPACITY_EMPTY_ELEMENTDATA a_cache a_TRUE a_MILLISECONDS a_MILLISECONDS_name a_FALSE cl_cache) :
    MetFree l own_m6 (head1 (Jvm.Cond.code own_m6 jdk_29_method_65_code 2 (some .int) :: ws) ({ frames := 0, cells := 0, slots := 0, locals := 0 } : Room)) (fun a U => a = #[(.int (10 : Int32)), (.int (1 : Int32))] ∧ Z.Warmed39 U.vm ∧ U.heap = h0) (fun _ _ _ _ _ => True) (fun _ U o U' => ∃ v L, o = .returned v ∧ Q_f3 Z a_EMPTY_ELEMENTDATA a_DEFAULTCAPACITY_EMPTY_ELEMENTDATA a_cache a_TRUE a_MILLISECONDS a_MILLISECONDS_name a_FALSE cl_cache h0 n0 v U'.heap L ∧ FrameEnd U o U' L ({ frames := 0, cells := 0, slots := 0, locals := 0 } : Room).cells ({ frames := 0, cells := 0, slots := 0, locals := 0 } : Room).slots) := by
  refine MetFree.of_bodySF (Jvm.Free.JP.mathPlain rfl (by decide +kernel)) hisR ?_
  intro p e s m args below meth c s₁ Bd hml0 hP hK
  obtain ⟨rfl, hZ, hh⟩ := hP
  have hx := Bd.exec
  have hby := Bd.bytes
  have hml : c.maxLocals = 2 := hml0
  have hown : s.vm.findClass "java/lang/Math" = some m.cls := findClass_of_methodNamed Bd.named
  have hnm := (name_of_methodNamed Bd.named Bd.method).1
  have X00 : Stand p l e ({ frames := 0, cells := 0, slots := 0, locals := 0 } : Room) s m #[(.int (10 : Int32)), (.int (1 : Int32))] below meth c s₁ [] 0 0 := Stand.of_body Bd
  have e00 : s₁.heap = h0 := by rw [← hh, Bd.state]; rfl
  have N00 := Fr.nil n0
  refine Classical.byContradiction fun hNG => ?_
  have K00 := Keep.refl h0 []
  have k00 : ∀ t, own_At p e below m s₁ 0 #[.val (.int (10 : Int32)), .val (.int (1 : Int32))] [] t → own_En p e below m s₁ #[(.int (10 : Int32)), (.int (1 : Int32))] 2 t := fun t k => castTop (ef_f3 m ((10 : Int32)) ((1 : Int32)) ) k
  obtain ⟨S_EMPTY_ELEMENTDATA, E_EMPTY_ELEMENTDATA, S_DEFAULTCAPACITY_EMPTY_ELEMENTDATA, E_DEFAULTCAPACITY_EMPTY_ELEMENTDATA, S_cache, E_cache, S_TRUE, E_TRUE, F_TRUE_value, S_MILLISECONDS, E_MILLISECONDS, F_MILLISECONDS_name, E_MILLISECONDS_name, F_MILLISECONDS_ordinal, F_MILLISECONDS_scale, F_MILLISECONDS_maxNanos, F_MILLISECONDS_microRatio, F_MILLISECONDS_maxMicros, F_MILLISECONDS_milliRatio, F_MILLISECONDS_maxMillis, F_MILLISECONDS_secRatio, F_MILLISECONDS_maxSecs, S_FALSE, E_FALSE, F_FALSE_value, C_EMPTY_ELEMENTDATA, C_DEFAULTCAPACITY_EMPTY_ELEMENTDATA, B_cache⟩ := (id hE : EV Z a_EMPTY_ELEMENTDATA a_DEFAULTCAPACITY_EMPTY_ELEMENTDATA a_cache a_TRUE a_MILLISECONDS a_MILLISECONDS_name a_FALSE cl_cache)
  obtain ⟨k_DEF, A_DEF⟩ := C_DEFAULTCAPACITY_EMPTY_ELEMENTDATA.arv
  have k10 : ∀ t, own_At p e below m s₁ 10 #[.val (.int (10 : Int32)), .val (.int (1 : Int32))] [(.int (10 : Int32))] t → own_En p e below m s₁ #[(.int (10 : Int32)), (.int (1 : Int32))] 2 t := by
    intro t k
    refine k00 t ?_
    refine XS.iloadN X00.here hx rfl (hb hby d_jdk_29_method_65_code_0) rfl ?_
    show own_At p e below m s₁ 1 #[.val (.int (10 : Int32)), .val (.int (1 : Int32))] [(.int (10 : Int32))] t
    refine XS.iloadN X00.here hx rfl (hb hby d_jdk_29_method_65_code_1) rfl ?_
    show own_At p e below m s₁ 2 #[.val (.int (10 : Int32)), .val (.int (1 : Int32))] [(.int (1 : Int32)), (.int (10 : Int32))] t
    refine XS.icmpNo X00.here hx rfl (hb hby d_jdk_29_method_65_code_2) rfl (flt (by decide : ¬ ((10 : Int32) < (1 : Int32)))).1 ?_
    show own_At p e below m s₁ 5 #[.val (.int (10 : Int32)), .val (.int (1 : Int32))] [] t
    refine XS.iloadN X00.here hx rfl (hb hby d_jdk_29_method_65_code_5) rfl ?_
    show own_At p e below m s₁ 6 #[.val (.int (10 : Int32)), .val (.int (1 : Int32))] [(.int (10 : Int32))] t
    refine XS.goto X00.here hx rfl (pc0 := 6) (pc' := 10) rfl (hb hby d_jdk_29_method_65_code_6) (by decide) (by decide) ?_
    show own_At p e below m s₁ 10 #[.val (.int (10 : Int32)), .val (.int (1 : Int32))] [(.int (10 : Int32))] t
    exact k
  obtain ⟨fs, hr, hrun, hended, hW, hsame⟩ := X00.leave (v := some (.int (10 : Int32))) (fun h => by rw [Bd.returns] at h; cases h)
  refine hNG ⟨_, _, k10 _ ?_, hrun, hended, _, _, rfl, ?_, ⟨_, rfl⟩, hW, hsame.mono (by decide) (by decide)⟩
  · exact retOut X00 hx (t := .int) Bd.returns rfl (Or.inl ⟨rfl, Or.inl rfl, _, rfl⟩) (hb hby d_jdk_29_method_65_code_10) hr
  · show Q_f3 Z a_EMPTY_ELEMENTDATA a_DEFAULTCAPACITY_EMPTY_ELEMENTDATA a_cache a_TRUE a_MILLISECONDS a_MILLISECONDS_name a_FALSE cl_cache h0 n0 _ s₁.heap _
    rw [e00]
    exact ⟨rfl, N00, rfl⟩
theorem pd__II_I : parseMethodDescriptor "(II)I" = some ⟨[.int, .int], some .int⟩ := by decide +kernel
theorem d_jdk_38_method_6_code_52 : decode jdk_38_method_6_code 52 = .ok (.anewarray 7, 3) := by decide +kernel
theorem d_jdk_38_method_6_code_55 : decode jdk_38_method_6_code 55 = .ok (.dup_x1, 1) := by decide +kernel
theorem d_jdk_38_method_6_code_56 : decode jdk_38_method_6_code 56 = .ok (.putfield 9, 3) := by decide +kernel
theorem d_jdk_38_method_6_code_59 : decode jdk_38_method_6_code 59 = .ok (.areturn, 1) := by decide +kernel
abbrev own_m7 : MethodName := ⟨"java/util/ArrayList", "grow", "(I)[Ljava/lang/Object;"⟩
def Q_gi (Z : State) (q0 : Addr) (m0 : Int32) (a_EMPTY_ELEMENTDATA : Addr) (a_DEFAULTCAPACITY_EMPTY_ELEMENTDATA : Addr) (a_cache : Addr) (a_TRUE : Addr) (a_MILLISECONDS : Addr) (a_MILLISECONDS_name : Addr) (a_FALSE : Addr) (cl_cache : Cell) (h0 : Heap) (n0 : Nat) (v : Option Value) (h : Heap) (L : List Loc) : Prop := ∃ (b : Addr) (k : ClassId), v = some (.ref b) ∧ Fr n0 L ∧ Old Z n0 h ∧ Keep h0 h [q0] ∧ n0 ≤ b ∧ h0.size ≤ b ∧ Exa Z h q0 "java/util/ArrayList" ∧ Fld Z h q0 "java/util/AbstractList" "modCount" "I" (.int m0) ∧ Fld Z h q0 "java/util/ArrayList" "elementData" "[Ljava/lang/Object;" (.ref b) ∧ Fld Z h q0 "java/util/ArrayList" "size" "I" (.int (0 : Int32)) ∧ Arv Z h b k (.object "java/lang/Object") (10 : Int32) [.null, .null, .null, .null, .null, .null, .null, .null, .null, .null] .null ∧ Ovr Z k "java/lang/Object"
set_option maxRecDepth 65536 in
set_option maxHeartbeats 40000000 in
theorem rm_gi (l : Launch) (Z : State) (a0 : Array Value) (hw : ∀ d ∈ tables_1, d.before a0 Z = true) (ws : List Jvm.Cond) (q0 : Addr) (m0 : Int32) (a_EMPTY_ELEMENTDATA : Addr) (a_DEFAULTCAPACITY_EMPTY_ELEMENTDATA : Addr) (a_cache : Addr) (a_TRUE : Addr) (a_MILLISECONDS : Addr) (a_MILLISECONDS_name : Addr) (a_FALSE : Addr) (cl_cache : Cell) (h0 : Heap) (n0 : Nat) (O0 : Old Z n0 h0) (hE : EV Z a_EMPTY_ELEMENTDATA a_DEFAULTCAPACITY_EMPTY_ELEMENTDATA a_cache a_TRUE a_MILLISECONDS a_MILLISECONDS_name a_FALSE cl_cache) (P0 : Exa Z h0 q0 "java/util/ArrayList") (P1 : Fld Z h0 q0 "java/util/AbstractList" "modCount" "I" (.int m0)) (P2 : Fld Z h0 q0 "java/util/ArrayList" "elementData" "[Ljava/lang/Object;" (.ref a_DEFAULTCAPACITY_EMPTY_ELEMENTDATA)) (P3 : Fld Z h0 q0 "java/util/ArrayList" "size" "I" (.int (0 : Int32))) (g_q0 : n0 ≤ q0) :
    MetFree l own_m7 (head1 (Jvm.Cond.code own_m7 jdk_38_method_6_code 4 (some (.array (.object "java/lang/Object"))) :: ws) ({ frames := 1, cells := 1, slots := 10, locals := 14 } : Room)) (fun a U => a = #[(.ref q0), (.int (1 : Int32))] ∧ Z.Warmed39 U.vm ∧ U.heap = h0) (fun _ _ _ _ _ => True) (fun _ U o U' => ∃ v L, o = .returned v ∧ Q_gi Z q0 m0 a_EMPTY_ELEMENTDATA a_DEFAULTCAPACITY_EMPTY_ELEMENTDATA a_cache a_TRUE a_MILLISECONDS a_MILLISECONDS_name a_FALSE cl_cache h0 n0 v U'.heap L ∧ FrameEnd U o U' L ({ frames := 1, cells := 1, slots := 10, locals := 14 } : Room).cells ({ frames := 1, cells := 1, slots := 10, locals := 14 } : Room).slots) := by
  refine MetFree.of_bodySF (plainFor_of_name pn_java_util_ArrayList) hisR ?_
  intro p e s m args below meth c s₁ Bd hml0 hP hK
  obtain ⟨rfl, hZ, hh⟩ := hP
  have hx := Bd.exec
  have hby := Bd.bytes
  have hml : c.maxLocals = 4 := hml0
  have hown : s.vm.findClass "java/util/ArrayList" = some m.cls := findClass_of_methodNamed Bd.named
  have hnm := (name_of_methodNamed Bd.named Bd.method).1
  have X00 : Stand p l e ({ frames := 1, cells := 1, slots := 10, locals := 14 } : Room) s m #[(.ref q0), (.int (1 : Int32))] below meth c s₁ [] 0 0 := Stand.of_body Bd
  have e00 : s₁.heap = h0 := by rw [← hh, Bd.state]; rfl
  have N00 := Fr.nil n0
  refine Classical.byContradiction fun hNG => ?_
  have K00 := Keep.refl h0 [q0]
  have k00 : ∀ t, own_At p e below m s₁ 0 #[.val (.ref q0), .val (.int (1 : Int32)), .unset, .unset] [] t → own_En p e below m s₁ #[(.ref q0), (.int (1 : Int32))] 4 t := fun t k => castTop (ef_gi m q0 ((1 : Int32)) ) k
  obtain ⟨S_EMPTY_ELEMENTDATA, E_EMPTY_ELEMENTDATA, S_DEFAULTCAPACITY_EMPTY_ELEMENTDATA, E_DEFAULTCAPACITY_EMPTY_ELEMENTDATA, S_cache, E_cache, S_TRUE, E_TRUE, F_TRUE_value, S_MILLISECONDS, E_MILLISECONDS, F_MILLISECONDS_name, E_MILLISECONDS_name, F_MILLISECONDS_ordinal, F_MILLISECONDS_scale, F_MILLISECONDS_maxNanos, F_MILLISECONDS_microRatio, F_MILLISECONDS_maxMicros, F_MILLISECONDS_milliRatio, F_MILLISECONDS_maxMillis, F_MILLISECONDS_secRatio, F_MILLISECONDS_maxSecs, S_FALSE, E_FALSE, F_FALSE_value, C_EMPTY_ELEMENTDATA, C_DEFAULTCAPACITY_EMPTY_ELEMENTDATA, B_cache⟩ := (id hE : EV Z a_EMPTY_ELEMENTDATA a_DEFAULTCAPACITY_EMPTY_ELEMENTDATA a_cache a_TRUE a_MILLISECONDS a_MILLISECONDS_name a_FALSE cl_cache)
  obtain ⟨k_DEF, A_DEF⟩ := C_DEFAULTCAPACITY_EMPTY_ELEMENTDATA.arv
  obtain ⟨T10, X10, e10, st10⟩ := getF X00 hx hZ hown (host := "") (Or.inl (own_w hw 24 rfl)) Via.refl e00 P2 (g := (mkF m 1 #[.val (.ref q0), .val (.int (1 : Int32)), .unset, .unset] [(.ref q0)])) rfl rfl (hb hby d_jdk_38_method_6_code_1)
  obtain ⟨cl11, Ar11, q11, Sz11, Nn11, Hs11, Gf11⟩ := id (A_DEF.ext O0.2)
  obtain ⟨T12, X12, e12, st12⟩ := getF X10 hx hZ hown (host := "") (Or.inl (own_w hw 24 rfl)) Via.refl e10 P2 (g := (mkF m 11 #[.val (.ref q0), .val (.int (1 : Int32)), .val (.int (0 : Int32)), .unset] [(.ref q0)])) rfl rfl (hb hby d_jdk_38_method_6_code_11)
  obtain ⟨T13, X13, e13, st13⟩ := getS2 X12 hx hZ hown (host := "") (Or.inl (own_w hw 23 rfl)) Via.refl e12 (S_DEFAULTCAPACITY_EMPTY_ELEMENTDATA.ext O0.2) (g := (mkF m 14 #[.val (.ref q0), .val (.int (1 : Int32)), .val (.int (0 : Int32)), .unset] [(.ref a_DEFAULTCAPACITY_EMPTY_ELEMENTDATA)])) rfl (hb hby d_jdk_38_method_6_code_14)
  obtain ⟨_, _, ⟨T14, L14, k14, n14⟩, -, X14, ⟨Lc14, hQ14, l14, y14, z14⟩, st14⟩ := Jvm.LawKit.callS X13 hx (y := own_m6) hown (mvT hZ (own_w hw 62 rfl)) (mvT hZ (own_w hw 63 rfl)) (mvT hZ (own_w hw 64 rfl)) (mvT hZ (own_w hw 65 rfl)) (by decide) (backOf (W := 1) (rm_f3 l Z a0 hw []  _ _ _ _ _ _ _ _ h0 n0 O0 hE) hZ (own_w hw 65 rfl) (own_w hw 64 rfl) (by decide) (by decide)) (g := (mkF m 49 #[.val (.ref q0), .val (.int (1 : Int32)), .val (.int (0 : Int32)), .unset] [(.int (1 : Int32)), (.int (10 : Int32)), (.ref q0)])) rfl (by rw [hml]; rfl) (argsL := [(.int (10 : Int32)), (.int (1 : Int32))]) (rest := [(.ref q0)]) (lenOf pd__II_I rfl) rfl (by show 2 * 0 + _ ≤ _; exact Nat.le_of_eq rfl) (hb hby d_jdk_38_method_6_code_49) (fun _ _ => ⟨rfl, e13, (by decide : 0 + 0 ≤ _), (by decide : 0 + 0 ≤ _)⟩)
  dsimp only [Pt.U, Pt.locs, Pt.cells, Pt.slots] at X14 l14 y14 z14 st14 hQ14
  subst l14 y14 z14
  obtain ⟨rfl, N14q, hp14⟩ := hQ14
  have N14 := Fr.app N00 N14q
  obtain ⟨T15, h15, c15, X15, e15, E15, A15, Ov15, st15⟩ := newR X14 hx hZ hown (own_w hw 66 rfl) (own_w hw 67 rfl) hp14 (g := (mkF m 52 #[.val (.ref q0), .val (.int (1 : Int32)), .val (.int (0 : Int32)), .unset] [(.int (10 : Int32)), (.ref q0)])) rfl (hb hby d_jdk_38_method_6_code_52) rfl (by decide) (cap := 10) (by decide) (by decide) (by decide) (by decide)
  obtain ⟨b15, g15⟩ : ∃ z, z = h0.size := ⟨_, rfl⟩
  rw [← g15] at A15 st15
  have O15 := O0.ext E15
  have g_b15 : n0 ≤ b15 := Nat.le_trans (Nat.le_of_eq O0.1.symm) (Nat.le_trans O0.2.1 (Nat.le_of_eq g15.symm))
  have s_b15 : h0.size ≤ b15 := Nat.le_trans K00.1 (Nat.le_of_eq g15.symm)
  have K15 := K00.ext E15
  have V15 : Arv Z h15 b15 c15 (.object "java/lang/Object") (10 : Int32) [.null, .null, .null, .null, .null, .null, .null, .null, .null, .null] .null := (Arv.new A15 (by decide)).pad (pad_rep [] .null 10)
  have lt_b15 := V15.lt
  have f16 := (P0.ext E15)
  have f17 := (P2.ext E15)
  obtain ⟨T18, h18, X18, e18, W18, st18⟩ := putF X15 hx hZ hown (host := "") (Or.inl (own_w hw 24 rfl)) Via.refl e15 f17 f16 (Or.inl (own_w hw 25 rfl)) (own_w hw 1 rfl) (ty := (.array (.object "java/lang/Object"))) (by decide) rfl rfl (g := (mkF m 56 #[.val (.ref q0), .val (.int (1 : Int32)), .val (.int (0 : Int32)), .unset] [(.ref b15), (.ref q0), (.ref b15)])) rfl rfl (hb hby d_jdk_38_method_6_code_56)
  have F18_elementData := f17.same W18
  have N18 := Fr.snoc X18 N14 g_q0
  have O18 := O15.wr W18 g_q0
  have K18 := K15.wr W18 (Or.inl (List.mem_of_getElem? (i := 0) rfl))
  have k19 : ∀ t, own_At p e below m T18 59 #[.val (.ref q0), .val (.int (1 : Int32)), .val (.int (0 : Int32)), .unset] [(.ref b15)] t → own_En p e below m s₁ #[(.ref q0), (.int (1 : Int32))] 4 t := by
    intro t k
    refine k00 t ?_
    refine XS.aloadN X00.here hx rfl (hb hby d_jdk_38_method_6_code_0) rfl rfl ?_
    show own_At p e below m s₁ 1 #[.val (.ref q0), .val (.int (1 : Int32)), .unset, .unset] [(.ref q0)] t
    refine st10 _ ?_
    show own_At p e below m T10 4 #[.val (.ref q0), .val (.int (1 : Int32)), .unset, .unset] [(.ref a_DEFAULTCAPACITY_EMPTY_ELEMENTDATA)] t
    refine X10.arraylength hx (by rw [e10]; exact Ar11.1) (State.isArrayOf_alike hZ.alike Ar11.2.1) (g := (mkF m 4 #[.val (.ref q0), .val (.int (1 : Int32)), .unset, .unset] [(.ref a_DEFAULTCAPACITY_EMPTY_ELEMENTDATA)])) rfl rfl (hb hby d_jdk_38_method_6_code_4) _ ?_
    rw [len_of Sz11 Nn11]
    show own_At p e below m T10 5 #[.val (.ref q0), .val (.int (1 : Int32)), .unset, .unset] [(.int (0 : Int32))] t
    refine XS.istoreN X10.here hx rfl (hb hby d_jdk_38_method_6_code_5) rfl (l' := #[.val (.ref q0), .val (.int (1 : Int32)), .val (.int (0 : Int32)), .unset]) rfl ?_
    show own_At p e below m T10 6 #[.val (.ref q0), .val (.int (1 : Int32)), .val (.int (0 : Int32)), .unset] [] t
    refine XS.iloadN X10.here hx rfl (hb hby d_jdk_38_method_6_code_6) rfl ?_
    show own_At p e below m T10 7 #[.val (.ref q0), .val (.int (1 : Int32)), .val (.int (0 : Int32)), .unset] [(.int (0 : Int32))] t
    refine XS.ifNo X10.here hx rfl (hb hby d_jdk_38_method_6_code_7) rfl ((if0 _ _).trans (flt (by decide : ¬ ((0 : Int32) < (0 : Int32)))).2.2.1) ?_
    show own_At p e below m T10 10 #[.val (.ref q0), .val (.int (1 : Int32)), .val (.int (0 : Int32)), .unset] [] t
    refine XS.aloadN X10.here hx rfl (hb hby d_jdk_38_method_6_code_10) rfl rfl ?_
    show own_At p e below m T10 11 #[.val (.ref q0), .val (.int (1 : Int32)), .val (.int (0 : Int32)), .unset] [(.ref q0)] t
    refine st12 _ ?_
    show own_At p e below m T12 14 #[.val (.ref q0), .val (.int (1 : Int32)), .val (.int (0 : Int32)), .unset] [(.ref a_DEFAULTCAPACITY_EMPTY_ELEMENTDATA)] t
    refine st13 _ ?_
    show own_At p e below m T13 17 #[.val (.ref q0), .val (.int (1 : Int32)), .val (.int (0 : Int32)), .unset] [(.ref a_DEFAULTCAPACITY_EMPTY_ELEMENTDATA), (.ref a_DEFAULTCAPACITY_EMPTY_ELEMENTDATA)] t
    refine Jvm.RoadKit.acmp (g := (mkF m 17 #[.val (.ref q0), .val (.int (1 : Int32)), .val (.int (0 : Int32)), .unset] [(.ref a_DEFAULTCAPACITY_EMPTY_ELEMENTDATA), (.ref a_DEFAULTCAPACITY_EMPTY_ELEMENTDATA)])) X13 hx rfl rfl rfl (pc0 := 17) (pc' := 45) (same := true) rfl (hb hby d_jdk_38_method_6_code_17) rfl (decide_eq_true rfl) (by decide) (by decide) ?_
    show own_At p e below m T13 45 #[.val (.ref q0), .val (.int (1 : Int32)), .val (.int (0 : Int32)), .unset] [] t
    refine XS.aloadN X13.here hx rfl (hb hby d_jdk_38_method_6_code_45) rfl rfl ?_
    show own_At p e below m T13 46 #[.val (.ref q0), .val (.int (1 : Int32)), .val (.int (0 : Int32)), .unset] [(.ref q0)] t
    refine XS.bipush X13.here hx rfl (hb hby d_jdk_38_method_6_code_46) ?_
    show own_At p e below m T13 48 #[.val (.ref q0), .val (.int (1 : Int32)), .val (.int (0 : Int32)), .unset] [(.int (10 : Int32)), (.ref q0)] t
    refine XS.iloadN X13.here hx rfl (hb hby d_jdk_38_method_6_code_48) rfl ?_
    show own_At p e below m T13 49 #[.val (.ref q0), .val (.int (1 : Int32)), .val (.int (0 : Int32)), .unset] [(.int (1 : Int32)), (.int (10 : Int32)), (.ref q0)] t
    refine st14 _ ?_
    show own_At p e below m T14 52 #[.val (.ref q0), .val (.int (1 : Int32)), .val (.int (0 : Int32)), .unset] [(.int (10 : Int32)), (.ref q0)] t
    refine st15 _ ?_
    show own_At p e below m T15 55 #[.val (.ref q0), .val (.int (1 : Int32)), .val (.int (0 : Int32)), .unset] [(.ref b15), (.ref q0)] t
    refine XS.dupX1 X15.here hx rfl (hb hby d_jdk_38_method_6_code_55) rfl rfl rfl ?_
    show own_At p e below m T15 56 #[.val (.ref q0), .val (.int (1 : Int32)), .val (.int (0 : Int32)), .unset] [(.ref b15), (.ref q0), (.ref b15)] t
    refine st18 _ ?_
    show own_At p e below m T18 59 #[.val (.ref q0), .val (.int (1 : Int32)), .val (.int (0 : Int32)), .unset] [(.ref b15)] t
    exact k
  have f20 := (f16.wr W18)
  have f21 := ((P1.ext E15).other W18 (Or.inr (slot_ne (Or.inl (own_w hw 22 rfl)) (Or.inl (own_w hw 25 rfl)) (by decide) (t := .int) (t' := (.array (.object "java/lang/Object"))) (by decide) (by decide))))
  have f22 := ((P3.ext E15).other W18 (Or.inr (slot_ne (Or.inl (own_w hw 46 rfl)) (Or.inl (own_w hw 25 rfl)) (by decide) (t := .int) (t' := (.array (.object "java/lang/Object"))) (by decide) (by decide))))
  have ne23 : ¬ (b15 = q0) := (Ne.symm (Nat.ne_of_lt (Nat.lt_of_lt_of_le P0.lt (Nat.le_of_eq g15.symm))))
  have f24 := (V15.other W18 ne23)
  have f25 := Ov15
  obtain ⟨fs, hr, hrun, hended, hW, hsame⟩ := X18.leave (v := some (.ref b15)) (fun h => by rw [Bd.returns] at h; cases h)
  refine hNG ⟨_, _, k19 _ ?_, hrun, hended, _, _, rfl, ?_, ⟨_, rfl⟩, hW, hsame.mono (by decide) (by decide)⟩
  · exact retOut X18 hx (t := (.array (.object "java/lang/Object"))) Bd.returns rfl (Or.inr (Or.inr (Or.inr (Or.inr ⟨rfl, rfl, rfl⟩)))) (hb hby d_jdk_38_method_6_code_59) hr
  · show Q_gi Z q0 m0 a_EMPTY_ELEMENTDATA a_DEFAULTCAPACITY_EMPTY_ELEMENTDATA a_cache a_TRUE a_MILLISECONDS a_MILLISECONDS_name a_FALSE cl_cache h0 n0 _ T18.heap _
    rw [e18]
    exact ⟨b15, c15, rfl, N18, O18, K18, g_b15, s_b15, f20, f21, F18_elementData, f22, f24, f25⟩
theorem ef_g0 (m : MethodId) (x0 : Addr)  : entryFrame m #[(.ref x0)] 1 = mkF m 0 #[.val (.ref x0)] [] := by first | (simp [entryFrame, mkF, argsToLocals, Value.category]; done) | rfl
theorem d_jdk_38_method_7_code_0 : decode jdk_38_method_7_code 0 = .ok (.aload_n 0, 1) := by decide +kernel
theorem d_jdk_38_method_7_code_1 : decode jdk_38_method_7_code 1 = .ok (.aload_n 0, 1) := by decide +kernel
theorem d_jdk_38_method_7_code_2 : decode jdk_38_method_7_code 2 = .ok (.getfield 48, 3) := by decide +kernel
theorem d_jdk_38_method_7_code_5 : decode jdk_38_method_7_code 5 = .ok (.iconst 1, 1) := by decide +kernel
theorem d_jdk_38_method_7_code_6 : decode jdk_38_method_7_code 6 = .ok (.iadd, 1) := by decide +kernel
theorem d_jdk_38_method_7_code_7 : decode jdk_38_method_7_code 7 = .ok (.invokevirtual 69, 3) := by decide +kernel
theorem pd__I__Ljava_lang_Object_ : parseMethodDescriptor "(I)[Ljava/lang/Object;" = some ⟨[.int], some (.array (.object "java/lang/Object"))⟩ := by decide +kernel
theorem d_jdk_38_method_7_code_10 : decode jdk_38_method_7_code 10 = .ok (.areturn, 1) := by decide +kernel
abbrev own_m8 : MethodName := ⟨"java/util/ArrayList", "grow", "()[Ljava/lang/Object;"⟩
def Q_g0 (Z : State) (q0 : Addr) (m0 : Int32) (a_EMPTY_ELEMENTDATA : Addr) (a_DEFAULTCAPACITY_EMPTY_ELEMENTDATA : Addr) (a_cache : Addr) (a_TRUE : Addr) (a_MILLISECONDS : Addr) (a_MILLISECONDS_name : Addr) (a_FALSE : Addr) (cl_cache : Cell) (h0 : Heap) (n0 : Nat) (v : Option Value) (h : Heap) (L : List Loc) : Prop := ∃ (b : Addr) (k : ClassId), v = some (.ref b) ∧ Fr n0 L ∧ Old Z n0 h ∧ Keep h0 h [q0] ∧ n0 ≤ b ∧ h0.size ≤ b ∧ Exa Z h q0 "java/util/ArrayList" ∧ Fld Z h q0 "java/util/AbstractList" "modCount" "I" (.int m0) ∧ Fld Z h q0 "java/util/ArrayList" "elementData" "[Ljava/lang/Object;" (.ref b) ∧ Fld Z h q0 "java/util/ArrayList" "size" "I" (.int (0 : Int32)) ∧ Arv Z h b k (.object "java/lang/Object") (10 : Int32) [.null, .null, .null, .null, .null, .null, .null, .null, .null, .null] .null ∧ Ovr Z k "java/lang/Object"
set_option maxRecDepth 65536 in
set_option maxHeartbeats 40000000 in
theorem rm_g0 (l : Launch) (Z : State) (a0 : Array Value) (hw : ∀ d ∈ tables_1, d.before a0 Z = true) (ws : List Jvm.Cond) (q0 : Addr) (m0 : Int32) (a_EMPTY_ELEMENTDATA : Addr) (a_DEFAULTCAPACITY_EMPTY_ELEMENTDATA : Addr) (a_cache : Addr) (a_TRUE : Addr) (a_MILLISECONDS : Addr) (a_MILLISECONDS_name : Addr) (a_FALSE : Addr) (cl_cache : Cell) (h0 : Heap) (n0 : Nat) (O0 : Old Z n0 h0) (hE : EV Z a_EMPTY_ELEMENTDATA a_DEFAULTCAPACITY_EMPTY_ELEMENTDATA a_cache a_TRUE a_MILLISECONDS a_MILLISECONDS_name a_FALSE cl_cache) (P0 : Exa Z h0 q0 "java/util/ArrayList") (P1 : Fld Z h0 q0 "java/util/AbstractList" "modCount" "I" (.int m0)) (P2 : Fld Z h0 q0 "java/util/ArrayList" "elementData" "[Ljava/lang/Object;" (.ref a_DEFAULTCAPACITY_EMPTY_ELEMENTDATA)) (P3 : Fld Z h0 q0 "java/util/ArrayList" "size" "I" (.int (0 : Int32))) (g_q0 : n0 ≤ q0) :
    MetFree l own_m8 (head1 (Jvm.Cond.code own_m8 jdk_38_method_7_code 1 (some (.array (.object "java/lang/Object"))) :: ws) ({ frames := 2, cells := 1, slots := 10, locals := 29 } : Room)) (fun a U => a = #[(.ref q0)] ∧ Z.Warmed39 U.vm ∧ U.heap = h0) (fun _ _ _ _ _ => True) (fun _ U o U' => ∃ v L, o = .returned v ∧ Q_g0 Z q0 m0 a_EMPTY_ELEMENTDATA a_DEFAULTCAPACITY_EMPTY_ELEMENTDATA a_cache a_TRUE a_MILLISECONDS a_MILLISECONDS_name a_FALSE cl_cache h0 n0 v U'.heap L ∧ FrameEnd U o U' L ({ frames := 2, cells := 1, slots := 10, locals := 29 } : Room).cells ({ frames := 2, cells := 1, slots := 10, locals := 29 } : Room).slots) := by
  refine MetFree.of_bodySF (plainFor_of_name pn_java_util_ArrayList) hisR ?_
  intro p e s m args below meth c s₁ Bd hml0 hP hK
  obtain ⟨rfl, hZ, hh⟩ := hP
  have hx := Bd.exec
  have hby := Bd.bytes
  have hml : c.maxLocals = 1 := hml0
  have hown : s.vm.findClass "java/util/ArrayList" = some m.cls := findClass_of_methodNamed Bd.named
  have hnm := (name_of_methodNamed Bd.named Bd.method).1
  have X00 : Stand p l e ({ frames := 2, cells := 1, slots := 10, locals := 29 } : Room) s m #[(.ref q0)] below meth c s₁ [] 0 0 := Stand.of_body Bd
  have e00 : s₁.heap = h0 := by rw [← hh, Bd.state]; rfl
  have N00 := Fr.nil n0
  refine Classical.byContradiction fun hNG => ?_
  have K00 := Keep.refl h0 [q0]
  have k00 : ∀ t, own_At p e below m s₁ 0 #[.val (.ref q0)] [] t → own_En p e below m s₁ #[(.ref q0)] 1 t := fun t k => castTop (ef_g0 m q0 ) k
  obtain ⟨S_EMPTY_ELEMENTDATA, E_EMPTY_ELEMENTDATA, S_DEFAULTCAPACITY_EMPTY_ELEMENTDATA, E_DEFAULTCAPACITY_EMPTY_ELEMENTDATA, S_cache, E_cache, S_TRUE, E_TRUE, F_TRUE_value, S_MILLISECONDS, E_MILLISECONDS, F_MILLISECONDS_name, E_MILLISECONDS_name, F_MILLISECONDS_ordinal, F_MILLISECONDS_scale, F_MILLISECONDS_maxNanos, F_MILLISECONDS_microRatio, F_MILLISECONDS_maxMicros, F_MILLISECONDS_milliRatio, F_MILLISECONDS_maxMillis, F_MILLISECONDS_secRatio, F_MILLISECONDS_maxSecs, S_FALSE, E_FALSE, F_FALSE_value, C_EMPTY_ELEMENTDATA, C_DEFAULTCAPACITY_EMPTY_ELEMENTDATA, B_cache⟩ := (id hE : EV Z a_EMPTY_ELEMENTDATA a_DEFAULTCAPACITY_EMPTY_ELEMENTDATA a_cache a_TRUE a_MILLISECONDS a_MILLISECONDS_name a_FALSE cl_cache)
  obtain ⟨k_DEF, A_DEF⟩ := C_DEFAULTCAPACITY_EMPTY_ELEMENTDATA.arv
  obtain ⟨T10, X10, e10, st10⟩ := getF X00 hx hZ hown (host := "") (Or.inl (own_w hw 45 rfl)) Via.refl e00 P3 (g := (mkF m 2 #[.val (.ref q0)] [(.ref q0), (.ref q0)])) rfl rfl (hb hby d_jdk_38_method_7_code_2)
  obtain ⟨cq11, q11, q11'⟩ := Exa.cell P0
  obtain ⟨_, _, ⟨T11, L11, k11, n11⟩, -, X11, ⟨Lc11, hQ11, l11, y11, z11⟩, st11⟩ := X10.privateBack hx (y := own_m7) hown (mvT hZ (own_w hw 57 rfl)) (mvT hZ (own_w hw 58 rfl)) (mvT hZ (own_w hw 60 rfl)) (Cond.privateMethod_at (mvP hZ (own_w hw 59 rfl) (args := #[]))) (mvT hZ (own_w hw 61 rfl)) (by decide) (backOf (W := 0) (rm_gi l Z a0 hw [] q0 m0 _ _ _ _ _ _ _ _ h0 n0 O0 hE P0 P1 P2 P3 g_q0 ) hZ (own_w hw 61 rfl) (own_w hw 2 rfl) (by decide) (by decide)) (g := (mkF m 7 #[.val (.ref q0)] [(.int (1 : Int32)), (.ref q0)])) rfl (by rw [hml]; rfl) (Steps.refl _) (a := q0) (by rw [e10]; exact q11) q11' (argsL := [(.int (1 : Int32))]) (rest := []) (lenOf pd__I__Ljava_lang_Object_ rfl) rfl (by show 2 * 0 + _ ≤ _; exact Nat.le_of_eq rfl) (hb hby d_jdk_38_method_7_code_7) (fun _ _ => ⟨rfl, e10, (by decide : 0 + 1 ≤ _), (by decide : 0 + 10 ≤ _)⟩)
  dsimp only [Pt.U, Pt.locs, Pt.cells, Pt.slots] at X11 l11 y11 z11 st11 hQ11
  subst l11 y11 z11
  obtain ⟨b11, k11, rfl, N11q, O11, Kc11, g_b11, gs_b11, F11_0, F11_1, F11_2, F11_3, F11_4, F11_5⟩ := hQ11
  have N11 := Fr.app N00 N11q
  have K11 := K00.trans Kc11 (allS (Or.inl (List.mem_of_getElem? (i := 0) rfl)) all0)
  have s_b11 := Nat.le_trans K00.1 gs_b11
  have lt_b11 := F11_4.lt
  have k12 : ∀ t, own_At p e below m T11 10 #[.val (.ref q0)] [(.ref b11)] t → own_En p e below m s₁ #[(.ref q0)] 1 t := by
    intro t k
    refine k00 t ?_
    refine XS.aloadN X00.here hx rfl (hb hby d_jdk_38_method_7_code_0) rfl rfl ?_
    show own_At p e below m s₁ 1 #[.val (.ref q0)] [(.ref q0)] t
    refine XS.aloadN X00.here hx rfl (hb hby d_jdk_38_method_7_code_1) rfl rfl ?_
    show own_At p e below m s₁ 2 #[.val (.ref q0)] [(.ref q0), (.ref q0)] t
    refine st10 _ ?_
    show own_At p e below m T10 5 #[.val (.ref q0)] [(.int (0 : Int32)), (.ref q0)] t
    refine XS.iconst X10.here hx rfl (hb hby d_jdk_38_method_7_code_5) ?_
    show own_At p e below m T10 6 #[.val (.ref q0)] [(.int (1 : Int32)), (.int (0 : Int32)), (.ref q0)] t
    refine XS.iadd X10.here hx rfl (hb hby d_jdk_38_method_7_code_6) rfl ?_
    show own_At p e below m T10 7 #[.val (.ref q0)] [(.int ((0 : Int32) + (1 : Int32))), (.ref q0)] t
    rw [show ((0 : Int32) + (1 : Int32)) = (1 : Int32) from by decide]
    show own_At p e below m T10 7 #[.val (.ref q0)] [(.int (1 : Int32)), (.ref q0)] t
    refine st11.trans ?_
    show own_At p e below m T11 10 #[.val (.ref q0)] [(.ref b11)] t
    exact k
  obtain ⟨fs, hr, hrun, hended, hW, hsame⟩ := X11.leave (v := some (.ref b11)) (fun h => by rw [Bd.returns] at h; cases h)
  refine hNG ⟨_, _, k12 _ ?_, hrun, hended, _, _, rfl, ?_, ⟨_, rfl⟩, hW, hsame.mono (by decide) (by decide)⟩
  · exact retOut X11 hx (t := (.array (.object "java/lang/Object"))) Bd.returns rfl (Or.inr (Or.inr (Or.inr (Or.inr ⟨rfl, rfl, rfl⟩)))) (hb hby d_jdk_38_method_7_code_10) hr
  · show Q_g0 Z q0 m0 a_EMPTY_ELEMENTDATA a_DEFAULTCAPACITY_EMPTY_ELEMENTDATA a_cache a_TRUE a_MILLISECONDS a_MILLISECONDS_name a_FALSE cl_cache h0 n0 _ T11.heap _
    exact ⟨b11, k11, rfl, N11, O11, K11, g_b11, s_b11, F11_0, F11_1, F11_2, F11_3, F11_4, F11_5⟩
theorem ef_ap0 (m : MethodId) (x0 : Addr) (x1 : Addr) (x2 : Addr) (x3 : Int32)  : entryFrame m #[(.ref x0), (.ref x1), (.ref x2), (.int x3)] 4 = mkF m 0 #[.val (.ref x0), .val (.ref x1), .val (.ref x2), .val (.int x3)] [] := by first | (simp [entryFrame, mkF, argsToLocals, Value.category]; done) | rfl
theorem d_jdk_38_method_24_code_0 : decode jdk_38_method_24_code 0 = .ok (.iload_n 3, 1) := by decide +kernel
theorem d_jdk_38_method_24_code_1 : decode jdk_38_method_24_code 1 = .ok (.aload_n 2, 1) := by decide +kernel
theorem d_jdk_38_method_24_code_2 : decode jdk_38_method_24_code 2 = .ok (.arraylength, 1) := by decide +kernel
theorem d_jdk_38_method_24_code_3 : decode jdk_38_method_24_code 3 = .ok (.if_icmp .ne 8, 3) := by decide +kernel
theorem d_jdk_38_method_24_code_6 : decode jdk_38_method_24_code 6 = .ok (.aload_n 0, 1) := by decide +kernel
theorem d_jdk_38_method_24_code_7 : decode jdk_38_method_24_code 7 = .ok (.invokevirtual 129, 3) := by decide +kernel
theorem pd____Ljava_lang_Object_ : parseMethodDescriptor "()[Ljava/lang/Object;" = some ⟨[], some (.array (.object "java/lang/Object"))⟩ := by decide +kernel
theorem d_jdk_38_method_24_code_10 : decode jdk_38_method_24_code 10 = .ok (.astore_n 2, 1) := by decide +kernel
theorem d_jdk_38_method_24_code_11 : decode jdk_38_method_24_code 11 = .ok (.aload_n 2, 1) := by decide +kernel
theorem d_jdk_38_method_24_code_12 : decode jdk_38_method_24_code 12 = .ok (.iload_n 3, 1) := by decide +kernel
theorem d_jdk_38_method_24_code_13 : decode jdk_38_method_24_code 13 = .ok (.aload_n 1, 1) := by decide +kernel
theorem d_jdk_38_method_24_code_14 : decode jdk_38_method_24_code 14 = .ok (.aastore, 1) := by decide +kernel
theorem d_jdk_38_method_24_code_15 : decode jdk_38_method_24_code 15 = .ok (.aload_n 0, 1) := by decide +kernel
theorem d_jdk_38_method_24_code_16 : decode jdk_38_method_24_code 16 = .ok (.iload_n 3, 1) := by decide +kernel
theorem d_jdk_38_method_24_code_17 : decode jdk_38_method_24_code 17 = .ok (.iconst 1, 1) := by decide +kernel
theorem d_jdk_38_method_24_code_18 : decode jdk_38_method_24_code 18 = .ok (.iadd, 1) := by decide +kernel
theorem d_jdk_38_method_24_code_19 : decode jdk_38_method_24_code 19 = .ok (.putfield 48, 3) := by decide +kernel
theorem d_jdk_38_method_24_code_22 : decode jdk_38_method_24_code 22 = .ok (.return_, 1) := by decide +kernel
abbrev own_m9 : MethodName := ⟨"java/util/ArrayList", "add", "(Ljava/lang/Object;[Ljava/lang/Object;I)V"⟩
def Q_ap0 (Z : State) (q0 : Addr) (m0 : Int32) (e0 : Addr) (a_EMPTY_ELEMENTDATA : Addr) (a_DEFAULTCAPACITY_EMPTY_ELEMENTDATA : Addr) (a_cache : Addr) (a_TRUE : Addr) (a_MILLISECONDS : Addr) (a_MILLISECONDS_name : Addr) (a_FALSE : Addr) (cl_cache : Cell) (h0 : Heap) (n0 : Nat) (v : Option Value) (h : Heap) (L : List Loc) : Prop := ∃ (b : Addr) (k : ClassId), v = none ∧ Fr n0 L ∧ Old Z n0 h ∧ Keep h0 h [q0] ∧ n0 ≤ b ∧ h0.size ≤ b ∧ Exa Z h q0 "java/util/ArrayList" ∧ Fld Z h q0 "java/util/AbstractList" "modCount" "I" (.int m0) ∧ Fld Z h q0 "java/util/ArrayList" "elementData" "[Ljava/lang/Object;" (.ref b) ∧ Fld Z h q0 "java/util/ArrayList" "size" "I" (.int (1 : Int32)) ∧ Arv Z h b k (.object "java/lang/Object") (10 : Int32) [(.ref e0), .null, .null, .null, .null, .null, .null, .null, .null, .null] .null ∧ Ovr Z k "java/lang/Object"
set_option maxRecDepth 65536 in
set_option maxHeartbeats 40000000 in
theorem rm_ap0 (l : Launch) (Z : State) (a0 : Array Value) (hw : ∀ d ∈ tables_1, d.before a0 Z = true) (ws : List Jvm.Cond) (q0 : Addr) (m0 : Int32) (e0 : Addr) (a_EMPTY_ELEMENTDATA : Addr) (a_DEFAULTCAPACITY_EMPTY_ELEMENTDATA : Addr) (a_cache : Addr) (a_TRUE : Addr) (a_MILLISECONDS : Addr) (a_MILLISECONDS_name : Addr) (a_FALSE : Addr) (cl_cache : Cell) (h0 : Heap) (n0 : Nat) (O0 : Old Z n0 h0) (hE : EV Z a_EMPTY_ELEMENTDATA a_DEFAULTCAPACITY_EMPTY_ELEMENTDATA a_cache a_TRUE a_MILLISECONDS a_MILLISECONDS_name a_FALSE cl_cache) (P0 : Exa Z h0 q0 "java/util/ArrayList") (P1 : Fld Z h0 q0 "java/util/AbstractList" "modCount" "I" (.int m0)) (P2 : Fld Z h0 q0 "java/util/ArrayList" "elementData" "[Ljava/lang/Object;" (.ref a_DEFAULTCAPACITY_EMPTY_ELEMENTDATA)) (P3 : Fld Z h0 q0 "java/util/ArrayList" "size" "I" (.int (0 : Int32))) (P4 : Exa Z h0 e0 "java/lang/Long") (g_q0 : n0 ≤ q0) :
    MetFree l own_m9 (head1 (Jvm.Cond.code own_m9 jdk_38_method_24_code 4 none :: ws) ({ frames := 3, cells := 1, slots := 10, locals := 41 } : Room)) (fun a U => a = #[(.ref q0), (.ref e0), (.ref a_DEFAULTCAPACITY_EMPTY_ELEMENTDATA), (.int (0 : Int32))] ∧ Z.Warmed39 U.vm ∧ U.heap = h0) (fun _ _ _ _ _ => True) (fun _ U o U' => ∃ v L, o = .returned v ∧ Q_ap0 Z q0 m0 e0 a_EMPTY_ELEMENTDATA a_DEFAULTCAPACITY_EMPTY_ELEMENTDATA a_cache a_TRUE a_MILLISECONDS a_MILLISECONDS_name a_FALSE cl_cache h0 n0 v U'.heap L ∧ FrameEnd U o U' L ({ frames := 3, cells := 1, slots := 10, locals := 41 } : Room).cells ({ frames := 3, cells := 1, slots := 10, locals := 41 } : Room).slots) := by
  refine MetFree.of_bodySF (plainFor_of_name pn_java_util_ArrayList) hisR ?_
  intro p e s m args below meth c s₁ Bd hml0 hP hK
  obtain ⟨rfl, hZ, hh⟩ := hP
  have hx := Bd.exec
  have hby := Bd.bytes
  have hml : c.maxLocals = 4 := hml0
  have hown : s.vm.findClass "java/util/ArrayList" = some m.cls := findClass_of_methodNamed Bd.named
  have hnm := (name_of_methodNamed Bd.named Bd.method).1
  have X00 : Stand p l e ({ frames := 3, cells := 1, slots := 10, locals := 41 } : Room) s m #[(.ref q0), (.ref e0), (.ref a_DEFAULTCAPACITY_EMPTY_ELEMENTDATA), (.int (0 : Int32))] below meth c s₁ [] 0 0 := Stand.of_body Bd
  have e00 : s₁.heap = h0 := by rw [← hh, Bd.state]; rfl
  have N00 := Fr.nil n0
  refine Classical.byContradiction fun hNG => ?_
  have K00 := Keep.refl h0 [q0]
  have k00 : ∀ t, own_At p e below m s₁ 0 #[.val (.ref q0), .val (.ref e0), .val (.ref a_DEFAULTCAPACITY_EMPTY_ELEMENTDATA), .val (.int (0 : Int32))] [] t → own_En p e below m s₁ #[(.ref q0), (.ref e0), (.ref a_DEFAULTCAPACITY_EMPTY_ELEMENTDATA), (.int (0 : Int32))] 4 t := fun t k => castTop (ef_ap0 m q0 e0 a_DEFAULTCAPACITY_EMPTY_ELEMENTDATA ((0 : Int32)) ) k
  obtain ⟨S_EMPTY_ELEMENTDATA, E_EMPTY_ELEMENTDATA, S_DEFAULTCAPACITY_EMPTY_ELEMENTDATA, E_DEFAULTCAPACITY_EMPTY_ELEMENTDATA, S_cache, E_cache, S_TRUE, E_TRUE, F_TRUE_value, S_MILLISECONDS, E_MILLISECONDS, F_MILLISECONDS_name, E_MILLISECONDS_name, F_MILLISECONDS_ordinal, F_MILLISECONDS_scale, F_MILLISECONDS_maxNanos, F_MILLISECONDS_microRatio, F_MILLISECONDS_maxMicros, F_MILLISECONDS_milliRatio, F_MILLISECONDS_maxMillis, F_MILLISECONDS_secRatio, F_MILLISECONDS_maxSecs, S_FALSE, E_FALSE, F_FALSE_value, C_EMPTY_ELEMENTDATA, C_DEFAULTCAPACITY_EMPTY_ELEMENTDATA, B_cache⟩ := (id hE : EV Z a_EMPTY_ELEMENTDATA a_DEFAULTCAPACITY_EMPTY_ELEMENTDATA a_cache a_TRUE a_MILLISECONDS a_MILLISECONDS_name a_FALSE cl_cache)
  obtain ⟨k_DEF, A_DEF⟩ := C_DEFAULTCAPACITY_EMPTY_ELEMENTDATA.arv
  obtain ⟨cl10, Ar10, q10, Sz10, Nn10, Hs10, Gf10⟩ := id (A_DEF.ext O0.2)
  obtain ⟨cq11, q11, q11'⟩ := Exa.cell P0
  obtain ⟨_, _, ⟨T11, L11, k11, n11⟩, -, X11, ⟨Lc11, hQ11, l11, y11, z11⟩, st11⟩ := X00.privateBack hx (y := own_m8) hown (mvT hZ (own_w hw 52 rfl)) (mvT hZ (own_w hw 53 rfl)) (mvT hZ (own_w hw 55 rfl)) (Cond.privateMethod_at (mvP hZ (own_w hw 54 rfl) (args := #[]))) (mvT hZ (own_w hw 56 rfl)) (by decide) (backOf (W := 0) (rm_g0 l Z a0 hw [] q0 m0 _ _ _ _ _ _ _ _ h0 n0 O0 hE P0 P1 P2 P3 g_q0 ) hZ (own_w hw 56 rfl) (own_w hw 2 rfl) (by decide) (by decide)) (g := (mkF m 7 #[.val (.ref q0), .val (.ref e0), .val (.ref a_DEFAULTCAPACITY_EMPTY_ELEMENTDATA), .val (.int (0 : Int32))] [(.ref q0)])) rfl (by rw [hml]; rfl) (Steps.refl _) (a := q0) (by rw [e00]; exact q11) q11' (argsL := []) (rest := []) (lenOf pd____Ljava_lang_Object_ rfl) rfl (by show 2 * 0 + _ ≤ _; exact Nat.le_of_eq rfl) (hb hby d_jdk_38_method_24_code_7) (fun _ _ => ⟨rfl, e00, (by decide : 0 + 1 ≤ _), (by decide : 0 + 10 ≤ _)⟩)
  dsimp only [Pt.U, Pt.locs, Pt.cells, Pt.slots] at X11 l11 y11 z11 st11 hQ11
  subst l11 y11 z11
  obtain ⟨b11, k11, rfl, N11q, O11, Kc11, g_b11, gs_b11, F11_0, F11_1, F11_2, F11_3, F11_4, F11_5⟩ := hQ11
  have N11 := Fr.app N00 N11q
  have K11 := K00.trans Kc11 (allS (Or.inl (List.mem_of_getElem? (i := 0) rfl)) all0)
  have s_b11 := Nat.le_trans K00.1 gs_b11
  have lt_b11 := F11_4.lt
  obtain ⟨cl12, Ar12, q12, Sz12, Nn12, Hs12, Gf12⟩ := id F11_4
  have hin13 : ¬ ((0 : Int32) < 0 ∨ cl12.slots.size ≤ ((0 : Int32)).toNatClampNeg) := inb_of Sz12 ⟨by decide, by decide⟩
  have f14 := (P4.keep Kc11)
  obtain ⟨T15, h15, X15, e15, W15, st15⟩ := stR X11 hx hZ rfl Ar12 (j := (0 : Int32)) hin13 rfl (Sto.ofV Ar12 q12 F11_5 (Ins.of_exa f14 (own_w hw 68 rfl))) (g := (mkF m 14 #[.val (.ref q0), .val (.ref e0), .val (.ref b11), .val (.int (0 : Int32))] [(.ref e0), (.int (0 : Int32)), (.ref b11)])) rfl rfl (hb hby d_jdk_38_method_24_code_14)
  have V15 : Arv Z h15 b11 k11 (.object "java/lang/Object") (10 : Int32) [(.ref e0), .null, .null, .null, .null, .null, .null, .null, .null, .null] .null := Arv.set Ar12 q12 Sz12 Nn12 Hs12 Gf12 rfl W15 0 rfl (Nat.le_of_ble_eq_true rfl)
  have N15 := Fr.snoc X15 N11 g_b11
  have O15 := O11.wr W15 g_b11
  have K15 := K11.wr W15 (Or.inr s_b11)
  have f16 := (F11_0.wr W15)
  have ne17 : ¬ (q0 = b11) := (Nat.ne_of_lt (Nat.lt_of_lt_of_le P0.lt gs_b11))
  have f18 := (F11_3.other W15 (Or.inl ne17))
  obtain ⟨T19, h19, X19, e19, W19, st19⟩ := putF X15 hx hZ hown (host := "") (Or.inl (own_w hw 45 rfl)) Via.refl e15 f18 f16 (Or.inl (own_w hw 46 rfl)) (own_w hw 1 rfl) (ty := .int) (by decide) rfl rfl (g := (mkF m 19 #[.val (.ref q0), .val (.ref e0), .val (.ref b11), .val (.int (0 : Int32))] [(.int (1 : Int32)), (.ref q0)])) rfl rfl (hb hby d_jdk_38_method_24_code_19)
  have F19_size := f18.same W19
  have N19 := Fr.snoc X19 N15 g_q0
  have O19 := O15.wr W19 g_q0
  have K19 := K15.wr W19 (Or.inl (List.mem_of_getElem? (i := 0) rfl))
  have k20 : ∀ t, own_At p e below m T19 22 #[.val (.ref q0), .val (.ref e0), .val (.ref b11), .val (.int (0 : Int32))] [] t → own_En p e below m s₁ #[(.ref q0), (.ref e0), (.ref a_DEFAULTCAPACITY_EMPTY_ELEMENTDATA), (.int (0 : Int32))] 4 t := by
    intro t k
    refine k00 t ?_
    refine XS.iloadN X00.here hx rfl (hb hby d_jdk_38_method_24_code_0) rfl ?_
    show own_At p e below m s₁ 1 #[.val (.ref q0), .val (.ref e0), .val (.ref a_DEFAULTCAPACITY_EMPTY_ELEMENTDATA), .val (.int (0 : Int32))] [(.int (0 : Int32))] t
    refine XS.aloadN X00.here hx rfl (hb hby d_jdk_38_method_24_code_1) rfl rfl ?_
    show own_At p e below m s₁ 2 #[.val (.ref q0), .val (.ref e0), .val (.ref a_DEFAULTCAPACITY_EMPTY_ELEMENTDATA), .val (.int (0 : Int32))] [(.ref a_DEFAULTCAPACITY_EMPTY_ELEMENTDATA), (.int (0 : Int32))] t
    refine X00.arraylength hx (by rw [e00]; exact Ar10.1) (State.isArrayOf_alike hZ.alike Ar10.2.1) (g := (mkF m 2 #[.val (.ref q0), .val (.ref e0), .val (.ref a_DEFAULTCAPACITY_EMPTY_ELEMENTDATA), .val (.int (0 : Int32))] [(.ref a_DEFAULTCAPACITY_EMPTY_ELEMENTDATA), (.int (0 : Int32))])) rfl rfl (hb hby d_jdk_38_method_24_code_2) _ ?_
    rw [len_of Sz10 Nn10]
    show own_At p e below m s₁ 3 #[.val (.ref q0), .val (.ref e0), .val (.ref a_DEFAULTCAPACITY_EMPTY_ELEMENTDATA), .val (.int (0 : Int32))] [(.int (0 : Int32)), (.int (0 : Int32))] t
    refine XS.icmpNo X00.here hx rfl (hb hby d_jdk_38_method_24_code_3) rfl (teq (by decide : (0 : Int32) = (0 : Int32))).2 ?_
    show own_At p e below m s₁ 6 #[.val (.ref q0), .val (.ref e0), .val (.ref a_DEFAULTCAPACITY_EMPTY_ELEMENTDATA), .val (.int (0 : Int32))] [] t
    refine XS.aloadN X00.here hx rfl (hb hby d_jdk_38_method_24_code_6) rfl rfl ?_
    show own_At p e below m s₁ 7 #[.val (.ref q0), .val (.ref e0), .val (.ref a_DEFAULTCAPACITY_EMPTY_ELEMENTDATA), .val (.int (0 : Int32))] [(.ref q0)] t
    refine st11.trans ?_
    show own_At p e below m T11 10 #[.val (.ref q0), .val (.ref e0), .val (.ref a_DEFAULTCAPACITY_EMPTY_ELEMENTDATA), .val (.int (0 : Int32))] [(.ref b11)] t
    refine XS.astoreN X11.here hx rfl (hb hby d_jdk_38_method_24_code_10) rfl rfl (l' := #[.val (.ref q0), .val (.ref e0), .val (.ref b11), .val (.int (0 : Int32))]) rfl ?_
    show own_At p e below m T11 11 #[.val (.ref q0), .val (.ref e0), .val (.ref b11), .val (.int (0 : Int32))] [] t
    refine XS.aloadN X11.here hx rfl (hb hby d_jdk_38_method_24_code_11) rfl rfl ?_
    show own_At p e below m T11 12 #[.val (.ref q0), .val (.ref e0), .val (.ref b11), .val (.int (0 : Int32))] [(.ref b11)] t
    refine XS.iloadN X11.here hx rfl (hb hby d_jdk_38_method_24_code_12) rfl ?_
    show own_At p e below m T11 13 #[.val (.ref q0), .val (.ref e0), .val (.ref b11), .val (.int (0 : Int32))] [(.int (0 : Int32)), (.ref b11)] t
    refine XS.aloadN X11.here hx rfl (hb hby d_jdk_38_method_24_code_13) rfl rfl ?_
    show own_At p e below m T11 14 #[.val (.ref q0), .val (.ref e0), .val (.ref b11), .val (.int (0 : Int32))] [(.ref e0), (.int (0 : Int32)), (.ref b11)] t
    refine st15 _ ?_
    show own_At p e below m T15 15 #[.val (.ref q0), .val (.ref e0), .val (.ref b11), .val (.int (0 : Int32))] [] t
    refine XS.aloadN X15.here hx rfl (hb hby d_jdk_38_method_24_code_15) rfl rfl ?_
    show own_At p e below m T15 16 #[.val (.ref q0), .val (.ref e0), .val (.ref b11), .val (.int (0 : Int32))] [(.ref q0)] t
    refine XS.iloadN X15.here hx rfl (hb hby d_jdk_38_method_24_code_16) rfl ?_
    show own_At p e below m T15 17 #[.val (.ref q0), .val (.ref e0), .val (.ref b11), .val (.int (0 : Int32))] [(.int (0 : Int32)), (.ref q0)] t
    refine XS.iconst X15.here hx rfl (hb hby d_jdk_38_method_24_code_17) ?_
    show own_At p e below m T15 18 #[.val (.ref q0), .val (.ref e0), .val (.ref b11), .val (.int (0 : Int32))] [(.int (1 : Int32)), (.int (0 : Int32)), (.ref q0)] t
    refine XS.iadd X15.here hx rfl (hb hby d_jdk_38_method_24_code_18) rfl ?_
    show own_At p e below m T15 19 #[.val (.ref q0), .val (.ref e0), .val (.ref b11), .val (.int (0 : Int32))] [(.int ((0 : Int32) + (1 : Int32))), (.ref q0)] t
    rw [show ((0 : Int32) + (1 : Int32)) = (1 : Int32) from by decide]
    show own_At p e below m T15 19 #[.val (.ref q0), .val (.ref e0), .val (.ref b11), .val (.int (0 : Int32))] [(.int (1 : Int32)), (.ref q0)] t
    refine st19 _ ?_
    show own_At p e below m T19 22 #[.val (.ref q0), .val (.ref e0), .val (.ref b11), .val (.int (0 : Int32))] [] t
    exact k
  have f21 := (f16.wr W19)
  have f22 := ((F11_1.other W15 (Or.inl ne17)).other W19 (Or.inr (slot_ne (Or.inl (own_w hw 22 rfl)) (Or.inl (own_w hw 46 rfl)) (by decide) (t := .int) (t' := .int) (by decide) (by decide))))
  have f23 := ((F11_2.other W15 (Or.inl ne17)).other W19 (Or.inr (slot_ne (Or.inl (own_w hw 25 rfl)) (Or.inl (own_w hw 46 rfl)) (by decide) (t := (.array (.object "java/lang/Object"))) (t' := .int) (by decide) (by decide))))
  have f24 := (V15.other W19 (Ne.symm ne17))
  have f25 := F11_5
  obtain ⟨fs, hr, hrun, hended, hW, hsame⟩ := X19.leave (v := none) (fun _ => rfl)
  refine hNG ⟨_, _, k20 _ ?_, hrun, hended, _, _, rfl, ?_, ⟨_, rfl⟩, hW, hsame.mono (by decide) (by decide)⟩
  · exact X19.returnOut hx Bd.returns (hb hby d_jdk_38_method_24_code_22) hr
  · show Q_ap0 Z q0 m0 e0 a_EMPTY_ELEMENTDATA a_DEFAULTCAPACITY_EMPTY_ELEMENTDATA a_cache a_TRUE a_MILLISECONDS a_MILLISECONDS_name a_FALSE cl_cache h0 n0 _ T19.heap _
    rw [e19]
    exact ⟨b11, k11, rfl, N19, O19, K19, g_b11, s_b11, f21, f22, f23, F19_size, f24, f25⟩
theorem ef_ad0 (m : MethodId) (x0 : Addr) (x1 : Addr)  : entryFrame m #[(.ref x0), (.ref x1)] 2 = mkF m 0 #[.val (.ref x0), .val (.ref x1)] [] := by first | (simp [entryFrame, mkF, argsToLocals, Value.category]; done) | rfl
theorem d_jdk_38_method_25_code_0 : decode jdk_38_method_25_code 0 = .ok (.aload_n 0, 1) := by decide +kernel
theorem d_jdk_38_method_25_code_1 : decode jdk_38_method_25_code 1 = .ok (.dup, 1) := by decide +kernel
theorem d_jdk_38_method_25_code_2 : decode jdk_38_method_25_code 2 = .ok (.getfield 63, 3) := by decide +kernel
theorem d_jdk_38_method_25_code_5 : decode jdk_38_method_25_code 5 = .ok (.iconst 1, 1) := by decide +kernel
theorem d_jdk_38_method_25_code_6 : decode jdk_38_method_25_code 6 = .ok (.iadd, 1) := by decide +kernel
theorem d_jdk_38_method_25_code_7 : decode jdk_38_method_25_code 7 = .ok (.putfield 63, 3) := by decide +kernel
theorem d_jdk_38_method_25_code_10 : decode jdk_38_method_25_code 10 = .ok (.aload_n 0, 1) := by decide +kernel
theorem d_jdk_38_method_25_code_11 : decode jdk_38_method_25_code 11 = .ok (.aload_n 1, 1) := by decide +kernel
theorem d_jdk_38_method_25_code_12 : decode jdk_38_method_25_code 12 = .ok (.aload_n 0, 1) := by decide +kernel
theorem d_jdk_38_method_25_code_13 : decode jdk_38_method_25_code 13 = .ok (.getfield 9, 3) := by decide +kernel
theorem d_jdk_38_method_25_code_16 : decode jdk_38_method_25_code 16 = .ok (.aload_n 0, 1) := by decide +kernel
theorem d_jdk_38_method_25_code_17 : decode jdk_38_method_25_code 17 = .ok (.getfield 48, 3) := by decide +kernel
theorem d_jdk_38_method_25_code_20 : decode jdk_38_method_25_code 20 = .ok (.invokevirtual 131, 3) := by decide +kernel
theorem pd__Ljava_lang_Object__Ljava_lang_Object_I_V : parseMethodDescriptor "(Ljava/lang/Object;[Ljava/lang/Object;I)V" = some ⟨[(.object "java/lang/Object"), (.array (.object "java/lang/Object")), .int], none⟩ := by decide +kernel
theorem d_jdk_38_method_25_code_23 : decode jdk_38_method_25_code 23 = .ok (.iconst 1, 1) := by decide +kernel
theorem d_jdk_38_method_25_code_24 : decode jdk_38_method_25_code 24 = .ok (.ireturn, 1) := by decide +kernel
abbrev own_m10 : MethodName := ⟨"java/util/ArrayList", "add", "(Ljava/lang/Object;)Z"⟩
def Q_ad0 (Z : State) (q0 : Addr) (m0 : Int32) (e0 : Addr) (a_EMPTY_ELEMENTDATA : Addr) (a_DEFAULTCAPACITY_EMPTY_ELEMENTDATA : Addr) (a_cache : Addr) (a_TRUE : Addr) (a_MILLISECONDS : Addr) (a_MILLISECONDS_name : Addr) (a_FALSE : Addr) (cl_cache : Cell) (h0 : Heap) (n0 : Nat) (v : Option Value) (h : Heap) (L : List Loc) : Prop := ∃ (b : Addr) (k : ClassId), v = some (.int (1 : Int32)) ∧ Fr n0 L ∧ Old Z n0 h ∧ Keep h0 h [q0] ∧ n0 ≤ b ∧ h0.size ≤ b ∧ Exa Z h q0 "java/util/ArrayList" ∧ Fld Z h q0 "java/util/AbstractList" "modCount" "I" (.int (m0 + (1 : Int32))) ∧ Fld Z h q0 "java/util/ArrayList" "elementData" "[Ljava/lang/Object;" (.ref b) ∧ Fld Z h q0 "java/util/ArrayList" "size" "I" (.int (1 : Int32)) ∧ Arv Z h b k (.object "java/lang/Object") (10 : Int32) [(.ref e0), .null, .null, .null, .null, .null, .null, .null, .null, .null] .null ∧ Ovr Z k "java/lang/Object"
set_option maxRecDepth 65536 in
set_option maxHeartbeats 40000000 in
theorem rm_ad0 (l : Launch) (Z : State) (a0 : Array Value) (hw : ∀ d ∈ tables_1, d.before a0 Z = true) (ws : List Jvm.Cond) (q0 : Addr) (m0 : Int32) (e0 : Addr) (a_EMPTY_ELEMENTDATA : Addr) (a_DEFAULTCAPACITY_EMPTY_ELEMENTDATA : Addr) (a_cache : Addr) (a_TRUE : Addr) (a_MILLISECONDS : Addr) (a_MILLISECONDS_name : Addr) (a_FALSE : Addr) (cl_cache : Cell) (h0 : Heap) (n0 : Nat) (O0 : Old Z n0 h0) (hE : EV Z a_EMPTY_ELEMENTDATA a_DEFAULTCAPACITY_EMPTY_ELEMENTDATA a_cache a_TRUE a_MILLISECONDS a_MILLISECONDS_name a_FALSE cl_cache) (P0 : Exa Z h0 q0 "java/util/ArrayList") (P1 : Fld Z h0 q0 "java/util/AbstractList" "modCount" "I" (.int m0)) (P2 : Fld Z h0 q0 "java/util/ArrayList" "elementData" "[Ljava/lang/Object;" (.ref a_DEFAULTCAPACITY_EMPTY_ELEMENTDATA)) (P3 : Fld Z h0 q0 "java/util/ArrayList" "size" "I" (.int (0 : Int32))) (P4 : Exa Z h0 e0 "java/lang/Long") (g_q0 : n0 ≤ q0) :
    MetFree l own_m10 (head1 (Jvm.Cond.code own_m10 jdk_38_method_25_code 2 (some .boolean) :: ws) ({ frames := 4, cells := 1, slots := 10, locals := 56 } : Room)) (fun a U => a = #[(.ref q0), (.ref e0)] ∧ Z.Warmed39 U.vm ∧ U.heap = h0) (fun _ _ _ _ _ => True) (fun _ U o U' => ∃ v L, o = .returned v ∧ Q_ad0 Z q0 m0 e0 a_EMPTY_ELEMENTDATA a_DEFAULTCAPACITY_EMPTY_ELEMENTDATA a_cache a_TRUE a_MILLISECONDS a_MILLISECONDS_name a_FALSE cl_cache h0 n0 v U'.heap L ∧ FrameEnd U o U' L ({ frames := 4, cells := 1, slots := 10, locals := 56 } : Room).cells ({ frames := 4, cells := 1, slots := 10, locals := 56 } : Room).slots) := by
  refine MetFree.of_bodySF (plainFor_of_name pn_java_util_ArrayList) hisR ?_
  intro p e s m args below meth c s₁ Bd hml0 hP hK
  obtain ⟨rfl, hZ, hh⟩ := hP
  have hx := Bd.exec
  have hby := Bd.bytes
  have hml : c.maxLocals = 2 := hml0
  have hown : s.vm.findClass "java/util/ArrayList" = some m.cls := findClass_of_methodNamed Bd.named
  have hnm := (name_of_methodNamed Bd.named Bd.method).1
  have X00 : Stand p l e ({ frames := 4, cells := 1, slots := 10, locals := 56 } : Room) s m #[(.ref q0), (.ref e0)] below meth c s₁ [] 0 0 := Stand.of_body Bd
  have e00 : s₁.heap = h0 := by rw [← hh, Bd.state]; rfl
  have N00 := Fr.nil n0
  refine Classical.byContradiction fun hNG => ?_
  have K00 := Keep.refl h0 [q0]
  have k00 : ∀ t, own_At p e below m s₁ 0 #[.val (.ref q0), .val (.ref e0)] [] t → own_En p e below m s₁ #[(.ref q0), (.ref e0)] 2 t := fun t k => castTop (ef_ad0 m q0 e0 ) k
  obtain ⟨S_EMPTY_ELEMENTDATA, E_EMPTY_ELEMENTDATA, S_DEFAULTCAPACITY_EMPTY_ELEMENTDATA, E_DEFAULTCAPACITY_EMPTY_ELEMENTDATA, S_cache, E_cache, S_TRUE, E_TRUE, F_TRUE_value, S_MILLISECONDS, E_MILLISECONDS, F_MILLISECONDS_name, E_MILLISECONDS_name, F_MILLISECONDS_ordinal, F_MILLISECONDS_scale, F_MILLISECONDS_maxNanos, F_MILLISECONDS_microRatio, F_MILLISECONDS_maxMicros, F_MILLISECONDS_milliRatio, F_MILLISECONDS_maxMillis, F_MILLISECONDS_secRatio, F_MILLISECONDS_maxSecs, S_FALSE, E_FALSE, F_FALSE_value, C_EMPTY_ELEMENTDATA, C_DEFAULTCAPACITY_EMPTY_ELEMENTDATA, B_cache⟩ := (id hE : EV Z a_EMPTY_ELEMENTDATA a_DEFAULTCAPACITY_EMPTY_ELEMENTDATA a_cache a_TRUE a_MILLISECONDS a_MILLISECONDS_name a_FALSE cl_cache)
  obtain ⟨k_DEF, A_DEF⟩ := C_DEFAULTCAPACITY_EMPTY_ELEMENTDATA.arv
  obtain ⟨T10, X10, e10, st10⟩ := getF X00 hx hZ hown (host := "") (Or.inl (own_w hw 43 rfl)) (Via.of (own_w hw 44 rfl)) e00 P1 (g := (mkF m 2 #[.val (.ref q0), .val (.ref e0)] [(.ref q0), (.ref q0)])) rfl rfl (hb hby d_jdk_38_method_25_code_2)
  obtain ⟨T11, h11, X11, e11, W11, st11⟩ := putF X10 hx hZ hown (host := "") (Or.inl (own_w hw 43 rfl)) (Via.of (own_w hw 44 rfl)) e10 P1 P0 (Or.inl (own_w hw 22 rfl)) (own_w hw 1 rfl) (ty := .int) (by decide) rfl rfl (g := (mkF m 7 #[.val (.ref q0), .val (.ref e0)] [(.int (m0 + (1 : Int32))), (.ref q0)])) rfl rfl (hb hby d_jdk_38_method_25_code_7)
  have F11_modCount := P1.same W11
  have N11 := Fr.snoc X11 N00 g_q0
  have O11 := O0.wr W11 g_q0
  have K11 := K00.wr W11 (Or.inl (List.mem_of_getElem? (i := 0) rfl))
  have f12 := (P2.other W11 (Or.inr (slot_ne (Or.inl (own_w hw 25 rfl)) (Or.inl (own_w hw 22 rfl)) (by decide) (t := (.array (.object "java/lang/Object"))) (t' := .int) (by decide) (by decide))))
  obtain ⟨T13, X13, e13, st13⟩ := getF X11 hx hZ hown (host := "") (Or.inl (own_w hw 24 rfl)) Via.refl e11 f12 (g := (mkF m 13 #[.val (.ref q0), .val (.ref e0)] [(.ref q0), (.ref e0), (.ref q0)])) rfl rfl (hb hby d_jdk_38_method_25_code_13)
  have f14 := (P3.other W11 (Or.inr (slot_ne (Or.inl (own_w hw 46 rfl)) (Or.inl (own_w hw 22 rfl)) (by decide) (t := .int) (t' := .int) (by decide) (by decide))))
  obtain ⟨T15, X15, e15, st15⟩ := getF X13 hx hZ hown (host := "") (Or.inl (own_w hw 45 rfl)) Via.refl e13 f14 (g := (mkF m 17 #[.val (.ref q0), .val (.ref e0)] [(.ref q0), (.ref a_DEFAULTCAPACITY_EMPTY_ELEMENTDATA), (.ref e0), (.ref q0)])) rfl rfl (hb hby d_jdk_38_method_25_code_17)
  have f16 := (P0.wr W11)
  have f17 := (P4.wr W11)
  obtain ⟨cq18, q18, q18'⟩ := Exa.cell f16
  obtain ⟨_, _, ⟨T18, L18, k18, n18⟩, -, X18, ⟨Lc18, hQ18, l18, y18, z18⟩, st18⟩ := X15.privateBack hx (y := own_m9) hown (mvT hZ (own_w hw 47 rfl)) (mvT hZ (own_w hw 48 rfl)) (mvT hZ (own_w hw 50 rfl)) (Cond.privateMethod_at (mvP hZ (own_w hw 49 rfl) (args := #[]))) (mvT hZ (own_w hw 51 rfl)) (by decide) (backOf (W := 0) (rm_ap0 l Z a0 hw [] q0 (m0 + (1 : Int32)) e0 _ _ _ _ _ _ _ _ h11 n0 O11 hE f16 F11_modCount f12 f14 f17 g_q0 ) hZ (own_w hw 51 rfl) (own_w hw 2 rfl) (by decide) (by decide)) (g := (mkF m 20 #[.val (.ref q0), .val (.ref e0)] [(.int (0 : Int32)), (.ref a_DEFAULTCAPACITY_EMPTY_ELEMENTDATA), (.ref e0), (.ref q0)])) rfl (by rw [hml]; rfl) (Steps.refl _) (a := q0) (by rw [e15]; exact q18) q18' (argsL := [(.ref e0), (.ref a_DEFAULTCAPACITY_EMPTY_ELEMENTDATA), (.int (0 : Int32))]) (rest := []) (lenOf pd__Ljava_lang_Object__Ljava_lang_Object_I_V rfl) rfl (by show 2 * 0 + _ ≤ _; exact Nat.le_of_eq rfl) (hb hby d_jdk_38_method_25_code_20) (fun _ _ => ⟨rfl, e15, (by decide : 0 + 1 ≤ _), (by decide : 0 + 10 ≤ _)⟩)
  dsimp only [Pt.U, Pt.locs, Pt.cells, Pt.slots] at X18 l18 y18 z18 st18 hQ18
  subst l18 y18 z18
  obtain ⟨b18, k18, rfl, N18q, O18, Kc18, g_b18, gs_b18, F18_0, F18_1, F18_2, F18_3, F18_4, F18_5⟩ := hQ18
  have N18 := Fr.app N11 N18q
  have K18 := K11.trans Kc18 (allS (Or.inl (List.mem_of_getElem? (i := 0) rfl)) all0)
  have s_b18 := Nat.le_trans K11.1 gs_b18
  have lt_b18 := F18_4.lt
  have k19 : ∀ t, own_At p e below m T18 24 #[.val (.ref q0), .val (.ref e0)] [(.int (1 : Int32))] t → own_En p e below m s₁ #[(.ref q0), (.ref e0)] 2 t := by
    intro t k
    refine k00 t ?_
    refine XS.aloadN X00.here hx rfl (hb hby d_jdk_38_method_25_code_0) rfl rfl ?_
    show own_At p e below m s₁ 1 #[.val (.ref q0), .val (.ref e0)] [(.ref q0)] t
    refine XS.dup X00.here hx rfl (hb hby d_jdk_38_method_25_code_1) rfl rfl ?_
    show own_At p e below m s₁ 2 #[.val (.ref q0), .val (.ref e0)] [(.ref q0), (.ref q0)] t
    refine st10 _ ?_
    show own_At p e below m T10 5 #[.val (.ref q0), .val (.ref e0)] [(.int m0), (.ref q0)] t
    refine XS.iconst X10.here hx rfl (hb hby d_jdk_38_method_25_code_5) ?_
    show own_At p e below m T10 6 #[.val (.ref q0), .val (.ref e0)] [(.int (1 : Int32)), (.int m0), (.ref q0)] t
    refine XS.iadd X10.here hx rfl (hb hby d_jdk_38_method_25_code_6) rfl ?_
    show own_At p e below m T10 7 #[.val (.ref q0), .val (.ref e0)] [(.int (m0 + (1 : Int32))), (.ref q0)] t
    refine st11 _ ?_
    show own_At p e below m T11 10 #[.val (.ref q0), .val (.ref e0)] [] t
    refine XS.aloadN X11.here hx rfl (hb hby d_jdk_38_method_25_code_10) rfl rfl ?_
    show own_At p e below m T11 11 #[.val (.ref q0), .val (.ref e0)] [(.ref q0)] t
    refine XS.aloadN X11.here hx rfl (hb hby d_jdk_38_method_25_code_11) rfl rfl ?_
    show own_At p e below m T11 12 #[.val (.ref q0), .val (.ref e0)] [(.ref e0), (.ref q0)] t
    refine XS.aloadN X11.here hx rfl (hb hby d_jdk_38_method_25_code_12) rfl rfl ?_
    show own_At p e below m T11 13 #[.val (.ref q0), .val (.ref e0)] [(.ref q0), (.ref e0), (.ref q0)] t
    refine st13 _ ?_
    show own_At p e below m T13 16 #[.val (.ref q0), .val (.ref e0)] [(.ref a_DEFAULTCAPACITY_EMPTY_ELEMENTDATA), (.ref e0), (.ref q0)] t
    refine XS.aloadN X13.here hx rfl (hb hby d_jdk_38_method_25_code_16) rfl rfl ?_
    show own_At p e below m T13 17 #[.val (.ref q0), .val (.ref e0)] [(.ref q0), (.ref a_DEFAULTCAPACITY_EMPTY_ELEMENTDATA), (.ref e0), (.ref q0)] t
    refine st15 _ ?_
    show own_At p e below m T15 20 #[.val (.ref q0), .val (.ref e0)] [(.int (0 : Int32)), (.ref a_DEFAULTCAPACITY_EMPTY_ELEMENTDATA), (.ref e0), (.ref q0)] t
    refine st18.trans ?_
    show own_At p e below m T18 23 #[.val (.ref q0), .val (.ref e0)] [] t
    refine XS.iconst X18.here hx rfl (hb hby d_jdk_38_method_25_code_23) ?_
    show own_At p e below m T18 24 #[.val (.ref q0), .val (.ref e0)] [(.int (1 : Int32))] t
    exact k
  obtain ⟨fs, hr, hrun, hended, hW, hsame⟩ := X18.leave (v := some (.int (1 : Int32))) (fun h => by rw [Bd.returns] at h; cases h)
  refine hNG ⟨_, _, k19 _ ?_, hrun, hended, _, _, rfl, ?_, ⟨_, rfl⟩, hW, hsame.mono (by decide) (by decide)⟩
  · exact retN X18 hx (t := .boolean) Bd.returns (by simp) (hb hby d_jdk_38_method_25_code_24) hr
  · show Q_ad0 Z q0 m0 e0 a_EMPTY_ELEMENTDATA a_DEFAULTCAPACITY_EMPTY_ELEMENTDATA a_cache a_TRUE a_MILLISECONDS a_MILLISECONDS_name a_FALSE cl_cache h0 n0 _ T18.heap _
    exact ⟨b18, k18, rfl, N18, O18, K18, g_b18, s_b18, F18_0, F18_1, F18_2, F18_3, F18_4, F18_5⟩
theorem ef_ap1 (m : MethodId) (x0 : Addr) (x1 : Addr) (x2 : Addr) (x3 : Int32)  : entryFrame m #[(.ref x0), (.ref x1), (.ref x2), (.int x3)] 4 = mkF m 0 #[.val (.ref x0), .val (.ref x1), .val (.ref x2), .val (.int x3)] [] := by first | (simp [entryFrame, mkF, argsToLocals, Value.category]; done) | rfl
def Q_ap1 (Z : State) (q0 : Addr) (m0 : Int32) (e0 : Addr) (t0 : Addr) (k0 : ClassId) (x0 : Addr) (a_EMPTY_ELEMENTDATA : Addr) (a_DEFAULTCAPACITY_EMPTY_ELEMENTDATA : Addr) (a_cache : Addr) (a_TRUE : Addr) (a_MILLISECONDS : Addr) (a_MILLISECONDS_name : Addr) (a_FALSE : Addr) (cl_cache : Cell) (h0 : Heap) (n0 : Nat) (v : Option Value) (h : Heap) (L : List Loc) : Prop := v = none ∧ Fr n0 L ∧ Old Z n0 h ∧ Keep h0 h [q0, t0] ∧ Exa Z h q0 "java/util/ArrayList" ∧ Fld Z h q0 "java/util/AbstractList" "modCount" "I" (.int m0) ∧ Fld Z h q0 "java/util/ArrayList" "elementData" "[Ljava/lang/Object;" (.ref t0) ∧ Fld Z h q0 "java/util/ArrayList" "size" "I" (.int (2 : Int32)) ∧ Arv Z h t0 k0 (.object "java/lang/Object") (10 : Int32) [(.ref x0), (.ref e0), .null, .null, .null, .null, .null, .null, .null, .null] .null ∧ Ovr Z k0 "java/lang/Object"
set_option maxRecDepth 65536 in
set_option maxHeartbeats 40000000 in
theorem rm_ap1 (l : Launch) (Z : State) (a0 : Array Value) (hw : ∀ d ∈ tables_1, d.before a0 Z = true) (ws : List Jvm.Cond) (q0 : Addr) (m0 : Int32) (e0 : Addr) (t0 : Addr) (k0 : ClassId) (x0 : Addr) (a_EMPTY_ELEMENTDATA : Addr) (a_DEFAULTCAPACITY_EMPTY_ELEMENTDATA : Addr) (a_cache : Addr) (a_TRUE : Addr) (a_MILLISECONDS : Addr) (a_MILLISECONDS_name : Addr) (a_FALSE : Addr) (cl_cache : Cell) (h0 : Heap) (n0 : Nat) (O0 : Old Z n0 h0) (hE : EV Z a_EMPTY_ELEMENTDATA a_DEFAULTCAPACITY_EMPTY_ELEMENTDATA a_cache a_TRUE a_MILLISECONDS a_MILLISECONDS_name a_FALSE cl_cache) (P0 : Exa Z h0 q0 "java/util/ArrayList") (P1 : Fld Z h0 q0 "java/util/AbstractList" "modCount" "I" (.int m0)) (P2 : Fld Z h0 q0 "java/util/ArrayList" "elementData" "[Ljava/lang/Object;" (.ref t0)) (P3 : Fld Z h0 q0 "java/util/ArrayList" "size" "I" (.int (1 : Int32))) (P4 : Arv Z h0 t0 k0 (.object "java/lang/Object") (10 : Int32) [(.ref x0), .null, .null, .null, .null, .null, .null, .null, .null, .null] .null) (P5 : Ovr Z k0 "java/lang/Object") (P6 : Exa Z h0 e0 "java/lang/Long") (g_q0 : n0 ≤ q0) (g_t0 : n0 ≤ t0) (nqt : ¬ (q0 = t0)) :
    MetFree l own_m9 (head1 (Jvm.Cond.code own_m9 jdk_38_method_24_code 4 none :: ws) ({ frames := 0, cells := 0, slots := 0, locals := 0 } : Room)) (fun a U => a = #[(.ref q0), (.ref e0), (.ref t0), (.int (1 : Int32))] ∧ Z.Warmed39 U.vm ∧ U.heap = h0) (fun _ _ _ _ _ => True) (fun _ U o U' => ∃ v L, o = .returned v ∧ Q_ap1 Z q0 m0 e0 t0 k0 x0 a_EMPTY_ELEMENTDATA a_DEFAULTCAPACITY_EMPTY_ELEMENTDATA a_cache a_TRUE a_MILLISECONDS a_MILLISECONDS_name a_FALSE cl_cache h0 n0 v U'.heap L ∧ FrameEnd U o U' L ({ frames := 0, cells := 0, slots := 0, locals := 0 } : Room).cells ({ frames := 0, cells := 0, slots := 0, locals := 0 } : Room).slots) := by
  refine MetFree.of_bodySF (plainFor_of_name pn_java_util_ArrayList) hisR ?_
  intro p e s m args below meth c s₁ Bd hml0 hP hK
  obtain ⟨rfl, hZ, hh⟩ := hP
  have hx := Bd.exec
  have hby := Bd.bytes
  have hml : c.maxLocals = 4 := hml0
  have hown : s.vm.findClass "java/util/ArrayList" = some m.cls := findClass_of_methodNamed Bd.named
  have hnm := (name_of_methodNamed Bd.named Bd.method).1
  have X00 : Stand p l e ({ frames := 0, cells := 0, slots := 0, locals := 0 } : Room) s m #[(.ref q0), (.ref e0), (.ref t0), (.int (1 : Int32))] below meth c s₁ [] 0 0 := Stand.of_body Bd
  have e00 : s₁.heap = h0 := by rw [← hh, Bd.state]; rfl
  have N00 := Fr.nil n0
  refine Classical.byContradiction fun hNG => ?_
  have K00 := Keep.refl h0 [q0, t0]
  have k00 : ∀ t, own_At p e below m s₁ 0 #[.val (.ref q0), .val (.ref e0), .val (.ref t0), .val (.int (1 : Int32))] [] t → own_En p e below m s₁ #[(.ref q0), (.ref e0), (.ref t0), (.int (1 : Int32))] 4 t := fun t k => castTop (ef_ap1 m q0 e0 t0 ((1 : Int32)) ) k
  obtain ⟨S_EMPTY_ELEMENTDATA, E_EMPTY_ELEMENTDATA, S_DEFAULTCAPACITY_EMPTY_ELEMENTDATA, E_DEFAULTCAPACITY_EMPTY_ELEMENTDATA, S_cache, E_cache, S_TRUE, E_TRUE, F_TRUE_value, S_MILLISECONDS, E_MILLISECONDS, F_MILLISECONDS_name, E_MILLISECONDS_name, F_MILLISECONDS_ordinal, F_MILLISECONDS_scale, F_MILLISECONDS_maxNanos, F_MILLISECONDS_microRatio, F_MILLISECONDS_maxMicros, F_MILLISECONDS_milliRatio, F_MILLISECONDS_maxMillis, F_MILLISECONDS_secRatio, F_MILLISECONDS_maxSecs, S_FALSE, E_FALSE, F_FALSE_value, C_EMPTY_ELEMENTDATA, C_DEFAULTCAPACITY_EMPTY_ELEMENTDATA, B_cache⟩ := (id hE : EV Z a_EMPTY_ELEMENTDATA a_DEFAULTCAPACITY_EMPTY_ELEMENTDATA a_cache a_TRUE a_MILLISECONDS a_MILLISECONDS_name a_FALSE cl_cache)
  obtain ⟨k_DEF, A_DEF⟩ := C_DEFAULTCAPACITY_EMPTY_ELEMENTDATA.arv
  obtain ⟨cl10, Ar10, q10, Sz10, Nn10, Hs10, Gf10⟩ := id P4
  obtain ⟨cl11, Ar11, q11, Sz11, Nn11, Hs11, Gf11⟩ := id P4
  have hin12 : ¬ ((1 : Int32) < 0 ∨ cl11.slots.size ≤ ((1 : Int32)).toNatClampNeg) := inb_of Sz11 ⟨by decide, by decide⟩
  obtain ⟨T13, h13, X13, e13, W13, st13⟩ := stR X00 hx hZ e00 Ar11 (j := (1 : Int32)) hin12 rfl (Sto.ofV Ar11 q11 P5 (Ins.of_exa P6 (own_w hw 68 rfl))) (g := (mkF m 14 #[.val (.ref q0), .val (.ref e0), .val (.ref t0), .val (.int (1 : Int32))] [(.ref e0), (.int (1 : Int32)), (.ref t0)])) rfl rfl (hb hby d_jdk_38_method_24_code_14)
  have V13 : Arv Z h13 t0 k0 (.object "java/lang/Object") (10 : Int32) [(.ref x0), (.ref e0), .null, .null, .null, .null, .null, .null, .null, .null] .null := Arv.set Ar11 q11 Sz11 Nn11 Hs11 Gf11 rfl W13 1 rfl (Nat.le_of_ble_eq_true rfl)
  have N13 := Fr.snoc X13 N00 g_t0
  have O13 := O0.wr W13 g_t0
  have K13 := K00.wr W13 (Or.inl (List.mem_of_getElem? (i := 1) rfl))
  have f14 := (P0.wr W13)
  have f15 := (P3.other W13 (Or.inl nqt))
  obtain ⟨T16, h16, X16, e16, W16, st16⟩ := putF X13 hx hZ hown (host := "") (Or.inl (own_w hw 45 rfl)) Via.refl e13 f15 f14 (Or.inl (own_w hw 46 rfl)) (own_w hw 1 rfl) (ty := .int) (by decide) rfl rfl (g := (mkF m 19 #[.val (.ref q0), .val (.ref e0), .val (.ref t0), .val (.int (1 : Int32))] [(.int (2 : Int32)), (.ref q0)])) rfl rfl (hb hby d_jdk_38_method_24_code_19)
  have F16_size := f15.same W16
  have N16 := Fr.snoc X16 N13 g_q0
  have O16 := O13.wr W16 g_q0
  have K16 := K13.wr W16 (Or.inl (List.mem_of_getElem? (i := 0) rfl))
  have k17 : ∀ t, own_At p e below m T16 22 #[.val (.ref q0), .val (.ref e0), .val (.ref t0), .val (.int (1 : Int32))] [] t → own_En p e below m s₁ #[(.ref q0), (.ref e0), (.ref t0), (.int (1 : Int32))] 4 t := by
    intro t k
    refine k00 t ?_
    refine XS.iloadN X00.here hx rfl (hb hby d_jdk_38_method_24_code_0) rfl ?_
    show own_At p e below m s₁ 1 #[.val (.ref q0), .val (.ref e0), .val (.ref t0), .val (.int (1 : Int32))] [(.int (1 : Int32))] t
    refine XS.aloadN X00.here hx rfl (hb hby d_jdk_38_method_24_code_1) rfl rfl ?_
    show own_At p e below m s₁ 2 #[.val (.ref q0), .val (.ref e0), .val (.ref t0), .val (.int (1 : Int32))] [(.ref t0), (.int (1 : Int32))] t
    refine X00.arraylength hx (by rw [e00]; exact Ar10.1) (State.isArrayOf_alike hZ.alike Ar10.2.1) (g := (mkF m 2 #[.val (.ref q0), .val (.ref e0), .val (.ref t0), .val (.int (1 : Int32))] [(.ref t0), (.int (1 : Int32))])) rfl rfl (hb hby d_jdk_38_method_24_code_2) _ ?_
    rw [len_of Sz10 Nn10]
    show own_At p e below m s₁ 3 #[.val (.ref q0), .val (.ref e0), .val (.ref t0), .val (.int (1 : Int32))] [(.int (10 : Int32)), (.int (1 : Int32))] t
    refine XS.icmpYes X00.here hx rfl (pc0 := 3) (pc' := 11) rfl (hb hby d_jdk_38_method_24_code_3) rfl (feq (by decide : ¬ ((1 : Int32) = (10 : Int32)))).2 (by decide) (by decide) ?_
    show own_At p e below m s₁ 11 #[.val (.ref q0), .val (.ref e0), .val (.ref t0), .val (.int (1 : Int32))] [] t
    refine XS.aloadN X00.here hx rfl (hb hby d_jdk_38_method_24_code_11) rfl rfl ?_
    show own_At p e below m s₁ 12 #[.val (.ref q0), .val (.ref e0), .val (.ref t0), .val (.int (1 : Int32))] [(.ref t0)] t
    refine XS.iloadN X00.here hx rfl (hb hby d_jdk_38_method_24_code_12) rfl ?_
    show own_At p e below m s₁ 13 #[.val (.ref q0), .val (.ref e0), .val (.ref t0), .val (.int (1 : Int32))] [(.int (1 : Int32)), (.ref t0)] t
    refine XS.aloadN X00.here hx rfl (hb hby d_jdk_38_method_24_code_13) rfl rfl ?_
    show own_At p e below m s₁ 14 #[.val (.ref q0), .val (.ref e0), .val (.ref t0), .val (.int (1 : Int32))] [(.ref e0), (.int (1 : Int32)), (.ref t0)] t
    refine st13 _ ?_
    show own_At p e below m T13 15 #[.val (.ref q0), .val (.ref e0), .val (.ref t0), .val (.int (1 : Int32))] [] t
    refine XS.aloadN X13.here hx rfl (hb hby d_jdk_38_method_24_code_15) rfl rfl ?_
    show own_At p e below m T13 16 #[.val (.ref q0), .val (.ref e0), .val (.ref t0), .val (.int (1 : Int32))] [(.ref q0)] t
    refine XS.iloadN X13.here hx rfl (hb hby d_jdk_38_method_24_code_16) rfl ?_
    show own_At p e below m T13 17 #[.val (.ref q0), .val (.ref e0), .val (.ref t0), .val (.int (1 : Int32))] [(.int (1 : Int32)), (.ref q0)] t
    refine XS.iconst X13.here hx rfl (hb hby d_jdk_38_method_24_code_17) ?_
    show own_At p e below m T13 18 #[.val (.ref q0), .val (.ref e0), .val (.ref t0), .val (.int (1 : Int32))] [(.int (1 : Int32)), (.int (1 : Int32)), (.ref q0)] t
    refine XS.iadd X13.here hx rfl (hb hby d_jdk_38_method_24_code_18) rfl ?_
    show own_At p e below m T13 19 #[.val (.ref q0), .val (.ref e0), .val (.ref t0), .val (.int (1 : Int32))] [(.int ((1 : Int32) + (1 : Int32))), (.ref q0)] t
    rw [show ((1 : Int32) + (1 : Int32)) = (2 : Int32) from by decide]
    show own_At p e below m T13 19 #[.val (.ref q0), .val (.ref e0), .val (.ref t0), .val (.int (1 : Int32))] [(.int (2 : Int32)), (.ref q0)] t
    refine st16 _ ?_
    show own_At p e below m T16 22 #[.val (.ref q0), .val (.ref e0), .val (.ref t0), .val (.int (1 : Int32))] [] t
    exact k
  have f18 := (f14.wr W16)
  have f19 := ((P1.other W13 (Or.inl nqt)).other W16 (Or.inr (slot_ne (Or.inl (own_w hw 22 rfl)) (Or.inl (own_w hw 46 rfl)) (by decide) (t := .int) (t' := .int) (by decide) (by decide))))
  have f20 := ((P2.other W13 (Or.inl nqt)).other W16 (Or.inr (slot_ne (Or.inl (own_w hw 25 rfl)) (Or.inl (own_w hw 46 rfl)) (by decide) (t := (.array (.object "java/lang/Object"))) (t' := .int) (by decide) (by decide))))
  have f21 := (V13.other W16 (Ne.symm nqt))
  have f22 := P5
  obtain ⟨fs, hr, hrun, hended, hW, hsame⟩ := X16.leave (v := none) (fun _ => rfl)
  refine hNG ⟨_, _, k17 _ ?_, hrun, hended, _, _, rfl, ?_, ⟨_, rfl⟩, hW, hsame.mono (by decide) (by decide)⟩
  · exact X16.returnOut hx Bd.returns (hb hby d_jdk_38_method_24_code_22) hr
  · show Q_ap1 Z q0 m0 e0 t0 k0 x0 a_EMPTY_ELEMENTDATA a_DEFAULTCAPACITY_EMPTY_ELEMENTDATA a_cache a_TRUE a_MILLISECONDS a_MILLISECONDS_name a_FALSE cl_cache h0 n0 _ T16.heap _
    rw [e16]
    exact ⟨rfl, N16, O16, K16, f18, f19, f20, F16_size, f21, f22⟩
theorem ef_ad1 (m : MethodId) (x0 : Addr) (x1 : Addr)  : entryFrame m #[(.ref x0), (.ref x1)] 2 = mkF m 0 #[.val (.ref x0), .val (.ref x1)] [] := by first | (simp [entryFrame, mkF, argsToLocals, Value.category]; done) | rfl
def Q_ad1 (Z : State) (q0 : Addr) (m0 : Int32) (e0 : Addr) (t0 : Addr) (k0 : ClassId) (x0 : Addr) (a_EMPTY_ELEMENTDATA : Addr) (a_DEFAULTCAPACITY_EMPTY_ELEMENTDATA : Addr) (a_cache : Addr) (a_TRUE : Addr) (a_MILLISECONDS : Addr) (a_MILLISECONDS_name : Addr) (a_FALSE : Addr) (cl_cache : Cell) (h0 : Heap) (n0 : Nat) (v : Option Value) (h : Heap) (L : List Loc) : Prop := v = some (.int (1 : Int32)) ∧ Fr n0 L ∧ Old Z n0 h ∧ Keep h0 h [q0, t0] ∧ Exa Z h q0 "java/util/ArrayList" ∧ Fld Z h q0 "java/util/AbstractList" "modCount" "I" (.int (m0 + (1 : Int32))) ∧ Fld Z h q0 "java/util/ArrayList" "elementData" "[Ljava/lang/Object;" (.ref t0) ∧ Fld Z h q0 "java/util/ArrayList" "size" "I" (.int (2 : Int32)) ∧ Arv Z h t0 k0 (.object "java/lang/Object") (10 : Int32) [(.ref x0), (.ref e0), .null, .null, .null, .null, .null, .null, .null, .null] .null ∧ Ovr Z k0 "java/lang/Object"
set_option maxRecDepth 65536 in
set_option maxHeartbeats 40000000 in
theorem rm_ad1 (l : Launch) (Z : State) (a0 : Array Value) (hw : ∀ d ∈ tables_1, d.before a0 Z = true) (ws : List Jvm.Cond) (q0 : Addr) (m0 : Int32) (e0 : Addr) (t0 : Addr) (k0 : ClassId) (x0 : Addr) (a_EMPTY_ELEMENTDATA : Addr) (a_DEFAULTCAPACITY_EMPTY_ELEMENTDATA : Addr) (a_cache : Addr) (a_TRUE : Addr) (a_MILLISECONDS : Addr) (a_MILLISECONDS_name : Addr) (a_FALSE : Addr) (cl_cache : Cell) (h0 : Heap) (n0 : Nat) (O0 : Old Z n0 h0) (hE : EV Z a_EMPTY_ELEMENTDATA a_DEFAULTCAPACITY_EMPTY_ELEMENTDATA a_cache a_TRUE a_MILLISECONDS a_MILLISECONDS_name a_FALSE cl_cache) (P0 : Exa Z h0 q0 "java/util/ArrayList") (P1 : Fld Z h0 q0 "java/util/AbstractList" "modCount" "I" (.int m0)) (P2 : Fld Z h0 q0 "java/util/ArrayList" "elementData" "[Ljava/lang/Object;" (.ref t0)) (P3 : Fld Z h0 q0 "java/util/ArrayList" "size" "I" (.int (1 : Int32))) (P4 : Arv Z h0 t0 k0 (.object "java/lang/Object") (10 : Int32) [(.ref x0), .null, .null, .null, .null, .null, .null, .null, .null, .null] .null) (P5 : Ovr Z k0 "java/lang/Object") (P6 : Exa Z h0 e0 "java/lang/Long") (g_q0 : n0 ≤ q0) (g_t0 : n0 ≤ t0) (nqt : ¬ (q0 = t0)) :
    MetFree l own_m10 (head1 (Jvm.Cond.code own_m10 jdk_38_method_25_code 2 (some .boolean) :: ws) ({ frames := 1, cells := 0, slots := 0, locals := 15 } : Room)) (fun a U => a = #[(.ref q0), (.ref e0)] ∧ Z.Warmed39 U.vm ∧ U.heap = h0) (fun _ _ _ _ _ => True) (fun _ U o U' => ∃ v L, o = .returned v ∧ Q_ad1 Z q0 m0 e0 t0 k0 x0 a_EMPTY_ELEMENTDATA a_DEFAULTCAPACITY_EMPTY_ELEMENTDATA a_cache a_TRUE a_MILLISECONDS a_MILLISECONDS_name a_FALSE cl_cache h0 n0 v U'.heap L ∧ FrameEnd U o U' L ({ frames := 1, cells := 0, slots := 0, locals := 15 } : Room).cells ({ frames := 1, cells := 0, slots := 0, locals := 15 } : Room).slots) := by
  refine MetFree.of_bodySF (plainFor_of_name pn_java_util_ArrayList) hisR ?_
  intro p e s m args below meth c s₁ Bd hml0 hP hK
  obtain ⟨rfl, hZ, hh⟩ := hP
  have hx := Bd.exec
  have hby := Bd.bytes
  have hml : c.maxLocals = 2 := hml0
  have hown : s.vm.findClass "java/util/ArrayList" = some m.cls := findClass_of_methodNamed Bd.named
  have hnm := (name_of_methodNamed Bd.named Bd.method).1
  have X00 : Stand p l e ({ frames := 1, cells := 0, slots := 0, locals := 15 } : Room) s m #[(.ref q0), (.ref e0)] below meth c s₁ [] 0 0 := Stand.of_body Bd
  have e00 : s₁.heap = h0 := by rw [← hh, Bd.state]; rfl
  have N00 := Fr.nil n0
  refine Classical.byContradiction fun hNG => ?_
  have K00 := Keep.refl h0 [q0, t0]
  have k00 : ∀ t, own_At p e below m s₁ 0 #[.val (.ref q0), .val (.ref e0)] [] t → own_En p e below m s₁ #[(.ref q0), (.ref e0)] 2 t := fun t k => castTop (ef_ad1 m q0 e0 ) k
  obtain ⟨S_EMPTY_ELEMENTDATA, E_EMPTY_ELEMENTDATA, S_DEFAULTCAPACITY_EMPTY_ELEMENTDATA, E_DEFAULTCAPACITY_EMPTY_ELEMENTDATA, S_cache, E_cache, S_TRUE, E_TRUE, F_TRUE_value, S_MILLISECONDS, E_MILLISECONDS, F_MILLISECONDS_name, E_MILLISECONDS_name, F_MILLISECONDS_ordinal, F_MILLISECONDS_scale, F_MILLISECONDS_maxNanos, F_MILLISECONDS_microRatio, F_MILLISECONDS_maxMicros, F_MILLISECONDS_milliRatio, F_MILLISECONDS_maxMillis, F_MILLISECONDS_secRatio, F_MILLISECONDS_maxSecs, S_FALSE, E_FALSE, F_FALSE_value, C_EMPTY_ELEMENTDATA, C_DEFAULTCAPACITY_EMPTY_ELEMENTDATA, B_cache⟩ := (id hE : EV Z a_EMPTY_ELEMENTDATA a_DEFAULTCAPACITY_EMPTY_ELEMENTDATA a_cache a_TRUE a_MILLISECONDS a_MILLISECONDS_name a_FALSE cl_cache)
  obtain ⟨k_DEF, A_DEF⟩ := C_DEFAULTCAPACITY_EMPTY_ELEMENTDATA.arv
  obtain ⟨T10, X10, e10, st10⟩ := getF X00 hx hZ hown (host := "") (Or.inl (own_w hw 43 rfl)) (Via.of (own_w hw 44 rfl)) e00 P1 (g := (mkF m 2 #[.val (.ref q0), .val (.ref e0)] [(.ref q0), (.ref q0)])) rfl rfl (hb hby d_jdk_38_method_25_code_2)
  obtain ⟨T11, h11, X11, e11, W11, st11⟩ := putF X10 hx hZ hown (host := "") (Or.inl (own_w hw 43 rfl)) (Via.of (own_w hw 44 rfl)) e10 P1 P0 (Or.inl (own_w hw 22 rfl)) (own_w hw 1 rfl) (ty := .int) (by decide) rfl rfl (g := (mkF m 7 #[.val (.ref q0), .val (.ref e0)] [(.int (m0 + (1 : Int32))), (.ref q0)])) rfl rfl (hb hby d_jdk_38_method_25_code_7)
  have F11_modCount := P1.same W11
  have N11 := Fr.snoc X11 N00 g_q0
  have O11 := O0.wr W11 g_q0
  have K11 := K00.wr W11 (Or.inl (List.mem_of_getElem? (i := 0) rfl))
  have f12 := (P2.other W11 (Or.inr (slot_ne (Or.inl (own_w hw 25 rfl)) (Or.inl (own_w hw 22 rfl)) (by decide) (t := (.array (.object "java/lang/Object"))) (t' := .int) (by decide) (by decide))))
  obtain ⟨T13, X13, e13, st13⟩ := getF X11 hx hZ hown (host := "") (Or.inl (own_w hw 24 rfl)) Via.refl e11 f12 (g := (mkF m 13 #[.val (.ref q0), .val (.ref e0)] [(.ref q0), (.ref e0), (.ref q0)])) rfl rfl (hb hby d_jdk_38_method_25_code_13)
  have f14 := (P3.other W11 (Or.inr (slot_ne (Or.inl (own_w hw 46 rfl)) (Or.inl (own_w hw 22 rfl)) (by decide) (t := .int) (t' := .int) (by decide) (by decide))))
  obtain ⟨T15, X15, e15, st15⟩ := getF X13 hx hZ hown (host := "") (Or.inl (own_w hw 45 rfl)) Via.refl e13 f14 (g := (mkF m 17 #[.val (.ref q0), .val (.ref e0)] [(.ref q0), (.ref t0), (.ref e0), (.ref q0)])) rfl rfl (hb hby d_jdk_38_method_25_code_17)
  have f16 := (P0.wr W11)
  have f17 := (P4.other W11 (Ne.symm nqt))
  have f18 := P5
  have f19 := (P6.wr W11)
  obtain ⟨cq20, q20, q20'⟩ := Exa.cell f16
  obtain ⟨_, _, ⟨T20, L20, k20, n20⟩, -, X20, ⟨Lc20, hQ20, l20, y20, z20⟩, st20⟩ := X15.privateBack hx (y := own_m9) hown (mvT hZ (own_w hw 47 rfl)) (mvT hZ (own_w hw 48 rfl)) (mvT hZ (own_w hw 50 rfl)) (Cond.privateMethod_at (mvP hZ (own_w hw 49 rfl) (args := #[]))) (mvT hZ (own_w hw 51 rfl)) (by decide) (backOf (W := 0) (rm_ap1 l Z a0 hw [] q0 (m0 + (1 : Int32)) e0 t0 k0 x0 _ _ _ _ _ _ _ _ h11 n0 O11 hE f16 F11_modCount f12 f14 f17 f18 f19 g_q0 g_t0 nqt) hZ (own_w hw 51 rfl) (own_w hw 2 rfl) (by decide) (by decide)) (g := (mkF m 20 #[.val (.ref q0), .val (.ref e0)] [(.int (1 : Int32)), (.ref t0), (.ref e0), (.ref q0)])) rfl (by rw [hml]; rfl) (Steps.refl _) (a := q0) (by rw [e15]; exact q20) q20' (argsL := [(.ref e0), (.ref t0), (.int (1 : Int32))]) (rest := []) (lenOf pd__Ljava_lang_Object__Ljava_lang_Object_I_V rfl) rfl (by show 2 * 0 + _ ≤ _; exact Nat.le_of_eq rfl) (hb hby d_jdk_38_method_25_code_20) (fun _ _ => ⟨rfl, e15, (by decide : 0 + 0 ≤ _), (by decide : 0 + 0 ≤ _)⟩)
  dsimp only [Pt.U, Pt.locs, Pt.cells, Pt.slots] at X20 l20 y20 z20 st20 hQ20
  subst l20 y20 z20
  obtain ⟨rfl, N20q, O20, Kc20, F20_0, F20_1, F20_2, F20_3, F20_4, F20_5⟩ := hQ20
  have N20 := Fr.app N11 N20q
  have K20 := K11.trans Kc20 (allS (Or.inl (List.mem_of_getElem? (i := 0) rfl)) (allS (Or.inl (List.mem_of_getElem? (i := 1) rfl)) all0))
  have k21 : ∀ t, own_At p e below m T20 24 #[.val (.ref q0), .val (.ref e0)] [(.int (1 : Int32))] t → own_En p e below m s₁ #[(.ref q0), (.ref e0)] 2 t := by
    intro t k
    refine k00 t ?_
    refine XS.aloadN X00.here hx rfl (hb hby d_jdk_38_method_25_code_0) rfl rfl ?_
    show own_At p e below m s₁ 1 #[.val (.ref q0), .val (.ref e0)] [(.ref q0)] t
    refine XS.dup X00.here hx rfl (hb hby d_jdk_38_method_25_code_1) rfl rfl ?_
    show own_At p e below m s₁ 2 #[.val (.ref q0), .val (.ref e0)] [(.ref q0), (.ref q0)] t
    refine st10 _ ?_
    show own_At p e below m T10 5 #[.val (.ref q0), .val (.ref e0)] [(.int m0), (.ref q0)] t
    refine XS.iconst X10.here hx rfl (hb hby d_jdk_38_method_25_code_5) ?_
    show own_At p e below m T10 6 #[.val (.ref q0), .val (.ref e0)] [(.int (1 : Int32)), (.int m0), (.ref q0)] t
    refine XS.iadd X10.here hx rfl (hb hby d_jdk_38_method_25_code_6) rfl ?_
    show own_At p e below m T10 7 #[.val (.ref q0), .val (.ref e0)] [(.int (m0 + (1 : Int32))), (.ref q0)] t
    refine st11 _ ?_
    show own_At p e below m T11 10 #[.val (.ref q0), .val (.ref e0)] [] t
    refine XS.aloadN X11.here hx rfl (hb hby d_jdk_38_method_25_code_10) rfl rfl ?_
    show own_At p e below m T11 11 #[.val (.ref q0), .val (.ref e0)] [(.ref q0)] t
    refine XS.aloadN X11.here hx rfl (hb hby d_jdk_38_method_25_code_11) rfl rfl ?_
    show own_At p e below m T11 12 #[.val (.ref q0), .val (.ref e0)] [(.ref e0), (.ref q0)] t
    refine XS.aloadN X11.here hx rfl (hb hby d_jdk_38_method_25_code_12) rfl rfl ?_
    show own_At p e below m T11 13 #[.val (.ref q0), .val (.ref e0)] [(.ref q0), (.ref e0), (.ref q0)] t
    refine st13 _ ?_
    show own_At p e below m T13 16 #[.val (.ref q0), .val (.ref e0)] [(.ref t0), (.ref e0), (.ref q0)] t
    refine XS.aloadN X13.here hx rfl (hb hby d_jdk_38_method_25_code_16) rfl rfl ?_
    show own_At p e below m T13 17 #[.val (.ref q0), .val (.ref e0)] [(.ref q0), (.ref t0), (.ref e0), (.ref q0)] t
    refine st15 _ ?_
    show own_At p e below m T15 20 #[.val (.ref q0), .val (.ref e0)] [(.int (1 : Int32)), (.ref t0), (.ref e0), (.ref q0)] t
    refine st20.trans ?_
    show own_At p e below m T20 23 #[.val (.ref q0), .val (.ref e0)] [] t
    refine XS.iconst X20.here hx rfl (hb hby d_jdk_38_method_25_code_23) ?_
    show own_At p e below m T20 24 #[.val (.ref q0), .val (.ref e0)] [(.int (1 : Int32))] t
    exact k
  obtain ⟨fs, hr, hrun, hended, hW, hsame⟩ := X20.leave (v := some (.int (1 : Int32))) (fun h => by rw [Bd.returns] at h; cases h)
  refine hNG ⟨_, _, k21 _ ?_, hrun, hended, _, _, rfl, ?_, ⟨_, rfl⟩, hW, hsame.mono (by decide) (by decide)⟩
  · exact retN X20 hx (t := .boolean) Bd.returns (by simp) (hb hby d_jdk_38_method_25_code_24) hr
  · show Q_ad1 Z q0 m0 e0 t0 k0 x0 a_EMPTY_ELEMENTDATA a_DEFAULTCAPACITY_EMPTY_ELEMENTDATA a_cache a_TRUE a_MILLISECONDS a_MILLISECONDS_name a_FALSE cl_cache h0 n0 _ T20.heap _
    exact ⟨rfl, N20, O20, K20, F20_0, F20_1, F20_2, F20_3, F20_4, F20_5⟩
theorem ef_ap2 (m : MethodId) (x0 : Addr) (x1 : Addr) (x2 : Addr) (x3 : Int32)  : entryFrame m #[(.ref x0), (.ref x1), (.ref x2), (.int x3)] 4 = mkF m 0 #[.val (.ref x0), .val (.ref x1), .val (.ref x2), .val (.int x3)] [] := by first | (simp [entryFrame, mkF, argsToLocals, Value.category]; done) | rfl
def Q_ap2 (Z : State) (q0 : Addr) (m0 : Int32) (e0 : Addr) (t0 : Addr) (k0 : ClassId) (x0 : Addr) (x1 : Addr) (a_EMPTY_ELEMENTDATA : Addr) (a_DEFAULTCAPACITY_EMPTY_ELEMENTDATA : Addr) (a_cache : Addr) (a_TRUE : Addr) (a_MILLISECONDS : Addr) (a_MILLISECONDS_name : Addr) (a_FALSE : Addr) (cl_cache : Cell) (h0 : Heap) (n0 : Nat) (v : Option Value) (h : Heap) (L : List Loc) : Prop := v = none ∧ Fr n0 L ∧ Old Z n0 h ∧ Keep h0 h [q0, t0] ∧ Exa Z h q0 "java/util/ArrayList" ∧ Fld Z h q0 "java/util/AbstractList" "modCount" "I" (.int m0) ∧ Fld Z h q0 "java/util/ArrayList" "elementData" "[Ljava/lang/Object;" (.ref t0) ∧ Fld Z h q0 "java/util/ArrayList" "size" "I" (.int (3 : Int32)) ∧ Arv Z h t0 k0 (.object "java/lang/Object") (10 : Int32) [(.ref x0), (.ref x1), (.ref e0), .null, .null, .null, .null, .null, .null, .null] .null ∧ Ovr Z k0 "java/lang/Object"
set_option maxRecDepth 65536 in
set_option maxHeartbeats 40000000 in
theorem rm_ap2 (l : Launch) (Z : State) (a0 : Array Value) (hw : ∀ d ∈ tables_1, d.before a0 Z = true) (ws : List Jvm.Cond) (q0 : Addr) (m0 : Int32) (e0 : Addr) (t0 : Addr) (k0 : ClassId) (x0 : Addr) (x1 : Addr) (a_EMPTY_ELEMENTDATA : Addr) (a_DEFAULTCAPACITY_EMPTY_ELEMENTDATA : Addr) (a_cache : Addr) (a_TRUE : Addr) (a_MILLISECONDS : Addr) (a_MILLISECONDS_name : Addr) (a_FALSE : Addr) (cl_cache : Cell) (h0 : Heap) (n0 : Nat) (O0 : Old Z n0 h0) (hE : EV Z a_EMPTY_ELEMENTDATA a_DEFAULTCAPACITY_EMPTY_ELEMENTDATA a_cache a_TRUE a_MILLISECONDS a_MILLISECONDS_name a_FALSE cl_cache) (P0 : Exa Z h0 q0 "java/util/ArrayList") (P1 : Fld Z h0 q0 "java/util/AbstractList" "modCount" "I" (.int m0)) (P2 : Fld Z h0 q0 "java/util/ArrayList" "elementData" "[Ljava/lang/Object;" (.ref t0)) (P3 : Fld Z h0 q0 "java/util/ArrayList" "size" "I" (.int (2 : Int32))) (P4 : Arv Z h0 t0 k0 (.object "java/lang/Object") (10 : Int32) [(.ref x0), (.ref x1), .null, .null, .null, .null, .null, .null, .null, .null] .null) (P5 : Ovr Z k0 "java/lang/Object") (P6 : Exa Z h0 e0 "java/lang/Long") (g_q0 : n0 ≤ q0) (g_t0 : n0 ≤ t0) (nqt : ¬ (q0 = t0)) :
    MetFree l own_m9 (head1 (Jvm.Cond.code own_m9 jdk_38_method_24_code 4 none :: ws) ({ frames := 0, cells := 0, slots := 0, locals := 0 } : Room)) (fun a U => a = #[(.ref q0), (.ref e0), (.ref t0), (.int (2 : Int32))] ∧ Z.Warmed39 U.vm ∧ U.heap = h0) (fun _ _ _ _ _ => True) (fun _ U o U' => ∃ v L, o = .returned v ∧ Q_ap2 Z q0 m0 e0 t0 k0 x0 x1 a_EMPTY_ELEMENTDATA a_DEFAULTCAPACITY_EMPTY_ELEMENTDATA a_cache a_TRUE a_MILLISECONDS a_MILLISECONDS_name a_FALSE cl_cache h0 n0 v U'.heap L ∧ FrameEnd U o U' L ({ frames := 0, cells := 0, slots := 0, locals := 0 } : Room).cells ({ frames := 0, cells := 0, slots := 0, locals := 0 } : Room).slots) := by
  refine MetFree.of_bodySF (plainFor_of_name pn_java_util_ArrayList) hisR ?_
  intro p e s m args below meth c s₁ Bd hml0 hP hK
  obtain ⟨rfl, hZ, hh⟩ := hP
  have hx := Bd.exec
  have hby := Bd.bytes
  have hml : c.maxLocals = 4 := hml0
  have hown : s.vm.findClass "java/util/ArrayList" = some m.cls := findClass_of_methodNamed Bd.named
  have hnm := (name_of_methodNamed Bd.named Bd.method).1
  have X00 : Stand p l e ({ frames := 0, cells := 0, slots := 0, locals := 0 } : Room) s m #[(.ref q0), (.ref e0), (.ref t0), (.int (2 : Int32))] below meth c s₁ [] 0 0 := Stand.of_body Bd
  have e00 : s₁.heap = h0 := by rw [← hh, Bd.state]; rfl
  have N00 := Fr.nil n0
  refine Classical.byContradiction fun hNG => ?_
  have K00 := Keep.refl h0 [q0, t0]
  have k00 : ∀ t, own_At p e below m s₁ 0 #[.val (.ref q0), .val (.ref e0), .val (.ref t0), .val (.int (2 : Int32))] [] t → own_En p e below m s₁ #[(.ref q0), (.ref e0), (.ref t0), (.int (2 : Int32))] 4 t := fun t k => castTop (ef_ap2 m q0 e0 t0 ((2 : Int32)) ) k
  obtain ⟨S_EMPTY_ELEMENTDATA, E_EMPTY_ELEMENTDATA, S_DEFAULTCAPACITY_EMPTY_ELEMENTDATA, E_DEFAULTCAPACITY_EMPTY_ELEMENTDATA, S_cache, E_cache, S_TRUE, E_TRUE, F_TRUE_value, S_MILLISECONDS, E_MILLISECONDS, F_MILLISECONDS_name, E_MILLISECONDS_name, F_MILLISECONDS_ordinal, F_MILLISECONDS_scale, F_MILLISECONDS_maxNanos, F_MILLISECONDS_microRatio, F_MILLISECONDS_maxMicros, F_MILLISECONDS_milliRatio, F_MILLISECONDS_maxMillis, F_MILLISECONDS_secRatio, F_MILLISECONDS_maxSecs, S_FALSE, E_FALSE, F_FALSE_value, C_EMPTY_ELEMENTDATA, C_DEFAULTCAPACITY_EMPTY_ELEMENTDATA, B_cache⟩ := (id hE : EV Z a_EMPTY_ELEMENTDATA a_DEFAULTCAPACITY_EMPTY_ELEMENTDATA a_cache a_TRUE a_MILLISECONDS a_MILLISECONDS_name a_FALSE cl_cache)
  obtain ⟨k_DEF, A_DEF⟩ := C_DEFAULTCAPACITY_EMPTY_ELEMENTDATA.arv
  obtain ⟨cl10, Ar10, q10, Sz10, Nn10, Hs10, Gf10⟩ := id P4
  obtain ⟨cl11, Ar11, q11, Sz11, Nn11, Hs11, Gf11⟩ := id P4
  have hin12 : ¬ ((2 : Int32) < 0 ∨ cl11.slots.size ≤ ((2 : Int32)).toNatClampNeg) := inb_of Sz11 ⟨by decide, by decide⟩
  obtain ⟨T13, h13, X13, e13, W13, st13⟩ := stR X00 hx hZ e00 Ar11 (j := (2 : Int32)) hin12 rfl (Sto.ofV Ar11 q11 P5 (Ins.of_exa P6 (own_w hw 68 rfl))) (g := (mkF m 14 #[.val (.ref q0), .val (.ref e0), .val (.ref t0), .val (.int (2 : Int32))] [(.ref e0), (.int (2 : Int32)), (.ref t0)])) rfl rfl (hb hby d_jdk_38_method_24_code_14)
  have V13 : Arv Z h13 t0 k0 (.object "java/lang/Object") (10 : Int32) [(.ref x0), (.ref x1), (.ref e0), .null, .null, .null, .null, .null, .null, .null] .null := Arv.set Ar11 q11 Sz11 Nn11 Hs11 Gf11 rfl W13 2 rfl (Nat.le_of_ble_eq_true rfl)
  have N13 := Fr.snoc X13 N00 g_t0
  have O13 := O0.wr W13 g_t0
  have K13 := K00.wr W13 (Or.inl (List.mem_of_getElem? (i := 1) rfl))
  have f14 := (P0.wr W13)
  have f15 := (P3.other W13 (Or.inl nqt))
  obtain ⟨T16, h16, X16, e16, W16, st16⟩ := putF X13 hx hZ hown (host := "") (Or.inl (own_w hw 45 rfl)) Via.refl e13 f15 f14 (Or.inl (own_w hw 46 rfl)) (own_w hw 1 rfl) (ty := .int) (by decide) rfl rfl (g := (mkF m 19 #[.val (.ref q0), .val (.ref e0), .val (.ref t0), .val (.int (2 : Int32))] [(.int (3 : Int32)), (.ref q0)])) rfl rfl (hb hby d_jdk_38_method_24_code_19)
  have F16_size := f15.same W16
  have N16 := Fr.snoc X16 N13 g_q0
  have O16 := O13.wr W16 g_q0
  have K16 := K13.wr W16 (Or.inl (List.mem_of_getElem? (i := 0) rfl))
  have k17 : ∀ t, own_At p e below m T16 22 #[.val (.ref q0), .val (.ref e0), .val (.ref t0), .val (.int (2 : Int32))] [] t → own_En p e below m s₁ #[(.ref q0), (.ref e0), (.ref t0), (.int (2 : Int32))] 4 t := by
    intro t k
    refine k00 t ?_
    refine XS.iloadN X00.here hx rfl (hb hby d_jdk_38_method_24_code_0) rfl ?_
    show own_At p e below m s₁ 1 #[.val (.ref q0), .val (.ref e0), .val (.ref t0), .val (.int (2 : Int32))] [(.int (2 : Int32))] t
    refine XS.aloadN X00.here hx rfl (hb hby d_jdk_38_method_24_code_1) rfl rfl ?_
    show own_At p e below m s₁ 2 #[.val (.ref q0), .val (.ref e0), .val (.ref t0), .val (.int (2 : Int32))] [(.ref t0), (.int (2 : Int32))] t
    refine X00.arraylength hx (by rw [e00]; exact Ar10.1) (State.isArrayOf_alike hZ.alike Ar10.2.1) (g := (mkF m 2 #[.val (.ref q0), .val (.ref e0), .val (.ref t0), .val (.int (2 : Int32))] [(.ref t0), (.int (2 : Int32))])) rfl rfl (hb hby d_jdk_38_method_24_code_2) _ ?_
    rw [len_of Sz10 Nn10]
    show own_At p e below m s₁ 3 #[.val (.ref q0), .val (.ref e0), .val (.ref t0), .val (.int (2 : Int32))] [(.int (10 : Int32)), (.int (2 : Int32))] t
    refine XS.icmpYes X00.here hx rfl (pc0 := 3) (pc' := 11) rfl (hb hby d_jdk_38_method_24_code_3) rfl (feq (by decide : ¬ ((2 : Int32) = (10 : Int32)))).2 (by decide) (by decide) ?_
    show own_At p e below m s₁ 11 #[.val (.ref q0), .val (.ref e0), .val (.ref t0), .val (.int (2 : Int32))] [] t
    refine XS.aloadN X00.here hx rfl (hb hby d_jdk_38_method_24_code_11) rfl rfl ?_
    show own_At p e below m s₁ 12 #[.val (.ref q0), .val (.ref e0), .val (.ref t0), .val (.int (2 : Int32))] [(.ref t0)] t
    refine XS.iloadN X00.here hx rfl (hb hby d_jdk_38_method_24_code_12) rfl ?_
    show own_At p e below m s₁ 13 #[.val (.ref q0), .val (.ref e0), .val (.ref t0), .val (.int (2 : Int32))] [(.int (2 : Int32)), (.ref t0)] t
    refine XS.aloadN X00.here hx rfl (hb hby d_jdk_38_method_24_code_13) rfl rfl ?_
    show own_At p e below m s₁ 14 #[.val (.ref q0), .val (.ref e0), .val (.ref t0), .val (.int (2 : Int32))] [(.ref e0), (.int (2 : Int32)), (.ref t0)] t
    refine st13 _ ?_
    show own_At p e below m T13 15 #[.val (.ref q0), .val (.ref e0), .val (.ref t0), .val (.int (2 : Int32))] [] t
    refine XS.aloadN X13.here hx rfl (hb hby d_jdk_38_method_24_code_15) rfl rfl ?_
    show own_At p e below m T13 16 #[.val (.ref q0), .val (.ref e0), .val (.ref t0), .val (.int (2 : Int32))] [(.ref q0)] t
    refine XS.iloadN X13.here hx rfl (hb hby d_jdk_38_method_24_code_16) rfl ?_
    show own_At p e below m T13 17 #[.val (.ref q0), .val (.ref e0), .val (.ref t0), .val (.int (2 : Int32))] [(.int (2 : Int32)), (.ref q0)] t
    refine XS.iconst X13.here hx rfl (hb hby d_jdk_38_method_24_code_17) ?_
    show own_At p e below m T13 18 #[.val (.ref q0), .val (.ref e0), .val (.ref t0), .val (.int (2 : Int32))] [(.int (1 : Int32)), (.int (2 : Int32)), (.ref q0)] t
    refine XS.iadd X13.here hx rfl (hb hby d_jdk_38_method_24_code_18) rfl ?_
    show own_At p e below m T13 19 #[.val (.ref q0), .val (.ref e0), .val (.ref t0), .val (.int (2 : Int32))] [(.int ((2 : Int32) + (1 : Int32))), (.ref q0)] t
    rw [show ((2 : Int32) + (1 : Int32)) = (3 : Int32) from by decide]
    show own_At p e below m T13 19 #[.val (.ref q0), .val (.ref e0), .val (.ref t0), .val (.int (2 : Int32))] [(.int (3 : Int32)), (.ref q0)] t
    refine st16 _ ?_
    show own_At p e below m T16 22 #[.val (.ref q0), .val (.ref e0), .val (.ref t0), .val (.int (2 : Int32))] [] t
    exact k
  have f18 := (f14.wr W16)
  have f19 := ((P1.other W13 (Or.inl nqt)).other W16 (Or.inr (slot_ne (Or.inl (own_w hw 22 rfl)) (Or.inl (own_w hw 46 rfl)) (by decide) (t := .int) (t' := .int) (by decide) (by decide))))
  have f20 := ((P2.other W13 (Or.inl nqt)).other W16 (Or.inr (slot_ne (Or.inl (own_w hw 25 rfl)) (Or.inl (own_w hw 46 rfl)) (by decide) (t := (.array (.object "java/lang/Object"))) (t' := .int) (by decide) (by decide))))
  have f21 := (V13.other W16 (Ne.symm nqt))
  have f22 := P5
  obtain ⟨fs, hr, hrun, hended, hW, hsame⟩ := X16.leave (v := none) (fun _ => rfl)
  refine hNG ⟨_, _, k17 _ ?_, hrun, hended, _, _, rfl, ?_, ⟨_, rfl⟩, hW, hsame.mono (by decide) (by decide)⟩
  · exact X16.returnOut hx Bd.returns (hb hby d_jdk_38_method_24_code_22) hr
  · show Q_ap2 Z q0 m0 e0 t0 k0 x0 x1 a_EMPTY_ELEMENTDATA a_DEFAULTCAPACITY_EMPTY_ELEMENTDATA a_cache a_TRUE a_MILLISECONDS a_MILLISECONDS_name a_FALSE cl_cache h0 n0 _ T16.heap _
    rw [e16]
    exact ⟨rfl, N16, O16, K16, f18, f19, f20, F16_size, f21, f22⟩
theorem ef_ad2 (m : MethodId) (x0 : Addr) (x1 : Addr)  : entryFrame m #[(.ref x0), (.ref x1)] 2 = mkF m 0 #[.val (.ref x0), .val (.ref x1)] [] := by first | (simp [entryFrame, mkF, argsToLocals, Value.category]; done) | rfl
def Q_ad2 (Z : State) (q0 : Addr) (m0 : Int32) (e0 : Addr) (t0 : Addr) (k0 : ClassId) (x0 : Addr) (x1 : Addr) (a_EMPTY_ELEMENTDATA : Addr) (a_DEFAULTCAPACITY_EMPTY_ELEMENTDATA : Addr) (a_cache : Addr) (a_TRUE : Addr) (a_MILLISECONDS : Addr) (a_MILLISECONDS_name : Addr) (a_FALSE : Addr) (cl_cache : Cell) (h0 : Heap) (n0 : Nat) (v : Option Value) (h : Heap) (L : List Loc) : Prop := v = some (.int (1 : Int32)) ∧ Fr n0 L ∧ Old Z n0 h ∧ Keep h0 h [q0, t0] ∧ Exa Z h q0 "java/util/ArrayList" ∧ Fld Z h q0 "java/util/AbstractList" "modCount" "I" (.int (m0 + (1 : Int32))) ∧ Fld Z h q0 "java/util/ArrayList" "elementData" "[Ljava/lang/Object;" (.ref t0) ∧ Fld Z h q0 "java/util/ArrayList" "size" "I" (.int (3 : Int32)) ∧ Arv Z h t0 k0 (.object "java/lang/Object") (10 : Int32) [(.ref x0), (.ref x1), (.ref e0), .null, .null, .null, .null, .null, .null, .null] .null ∧ Ovr Z k0 "java/lang/Object"
set_option maxRecDepth 65536 in
set_option maxHeartbeats 40000000 in
theorem rm_ad2 (l : Launch) (Z : State) (a0 : Array Value) (hw : ∀ d ∈ tables_1, d.before a0 Z = true) (ws : List Jvm.Cond) (q0 : Addr) (m0 : Int32) (e0 : Addr) (t0 : Addr) (k0 : ClassId) (x0 : Addr) (x1 : Addr) (a_EMPTY_ELEMENTDATA : Addr) (a_DEFAULTCAPACITY_EMPTY_ELEMENTDATA : Addr) (a_cache : Addr) (a_TRUE : Addr) (a_MILLISECONDS : Addr) (a_MILLISECONDS_name : Addr) (a_FALSE : Addr) (cl_cache : Cell) (h0 : Heap) (n0 : Nat) (O0 : Old Z n0 h0) (hE : EV Z a_EMPTY_ELEMENTDATA a_DEFAULTCAPACITY_EMPTY_ELEMENTDATA a_cache a_TRUE a_MILLISECONDS a_MILLISECONDS_name a_FALSE cl_cache) (P0 : Exa Z h0 q0 "java/util/ArrayList") (P1 : Fld Z h0 q0 "java/util/AbstractList" "modCount" "I" (.int m0)) (P2 : Fld Z h0 q0 "java/util/ArrayList" "elementData" "[Ljava/lang/Object;" (.ref t0)) (P3 : Fld Z h0 q0 "java/util/ArrayList" "size" "I" (.int (2 : Int32))) (P4 : Arv Z h0 t0 k0 (.object "java/lang/Object") (10 : Int32) [(.ref x0), (.ref x1), .null, .null, .null, .null, .null, .null, .null, .null] .null) (P5 : Ovr Z k0 "java/lang/Object") (P6 : Exa Z h0 e0 "java/lang/Long") (g_q0 : n0 ≤ q0) (g_t0 : n0 ≤ t0) (nqt : ¬ (q0 = t0)) :
    MetFree l own_m10 (head1 (Jvm.Cond.code own_m10 jdk_38_method_25_code 2 (some .boolean) :: ws) ({ frames := 1, cells := 0, slots := 0, locals := 15 } : Room)) (fun a U => a = #[(.ref q0), (.ref e0)] ∧ Z.Warmed39 U.vm ∧ U.heap = h0) (fun _ _ _ _ _ => True) (fun _ U o U' => ∃ v L, o = .returned v ∧ Q_ad2 Z q0 m0 e0 t0 k0 x0 x1 a_EMPTY_ELEMENTDATA a_DEFAULTCAPACITY_EMPTY_ELEMENTDATA a_cache a_TRUE a_MILLISECONDS a_MILLISECONDS_name a_FALSE cl_cache h0 n0 v U'.heap L ∧ FrameEnd U o U' L ({ frames := 1, cells := 0, slots := 0, locals := 15 } : Room).cells ({ frames := 1, cells := 0, slots := 0, locals := 15 } : Room).slots) := by
  refine MetFree.of_bodySF (plainFor_of_name pn_java_util_ArrayList) hisR ?_
  intro p e s m args below meth c s₁ Bd hml0 hP hK
  obtain ⟨rfl, hZ, hh⟩ := hP
  have hx := Bd.exec
  have hby := Bd.bytes
  have hml : c.maxLocals = 2 := hml0
  have hown : s.vm.findClass "java/util/ArrayList" = some m.cls := findClass_of_methodNamed Bd.named
  have hnm := (name_of_methodNamed Bd.named Bd.method).1
  have X00 : Stand p l e ({ frames := 1, cells := 0, slots := 0, locals := 15 } : Room) s m #[(.ref q0), (.ref e0)] below meth c s₁ [] 0 0 := Stand.of_body Bd
  have e00 : s₁.heap = h0 := by rw [← hh, Bd.state]; rfl
  have N00 := Fr.nil n0
  refine Classical.byContradiction fun hNG => ?_
  have K00 := Keep.refl h0 [q0, t0]
  have k00 : ∀ t, own_At p e below m s₁ 0 #[.val (.ref q0), .val (.ref e0)] [] t → own_En p e below m s₁ #[(.ref q0), (.ref e0)] 2 t := fun t k => castTop (ef_ad2 m q0 e0 ) k
  obtain ⟨S_EMPTY_ELEMENTDATA, E_EMPTY_ELEMENTDATA, S_DEFAULTCAPACITY_EMPTY_ELEMENTDATA, E_DEFAULTCAPACITY_EMPTY_ELEMENTDATA, S_cache, E_cache, S_TRUE, E_TRUE, F_TRUE_value, S_MILLISECONDS, E_MILLISECONDS, F_MILLISECONDS_name, E_MILLISECONDS_name, F_MILLISECONDS_ordinal, F_MILLISECONDS_scale, F_MILLISECONDS_maxNanos, F_MILLISECONDS_microRatio, F_MILLISECONDS_maxMicros, F_MILLISECONDS_milliRatio, F_MILLISECONDS_maxMillis, F_MILLISECONDS_secRatio, F_MILLISECONDS_maxSecs, S_FALSE, E_FALSE, F_FALSE_value, C_EMPTY_ELEMENTDATA, C_DEFAULTCAPACITY_EMPTY_ELEMENTDATA, B_cache⟩ := (id hE : EV Z a_EMPTY_ELEMENTDATA a_DEFAULTCAPACITY_EMPTY_ELEMENTDATA a_cache a_TRUE a_MILLISECONDS a_MILLISECONDS_name a_FALSE cl_cache)
  obtain ⟨k_DEF, A_DEF⟩ := C_DEFAULTCAPACITY_EMPTY_ELEMENTDATA.arv
  obtain ⟨T10, X10, e10, st10⟩ := getF X00 hx hZ hown (host := "") (Or.inl (own_w hw 43 rfl)) (Via.of (own_w hw 44 rfl)) e00 P1 (g := (mkF m 2 #[.val (.ref q0), .val (.ref e0)] [(.ref q0), (.ref q0)])) rfl rfl (hb hby d_jdk_38_method_25_code_2)
  obtain ⟨T11, h11, X11, e11, W11, st11⟩ := putF X10 hx hZ hown (host := "") (Or.inl (own_w hw 43 rfl)) (Via.of (own_w hw 44 rfl)) e10 P1 P0 (Or.inl (own_w hw 22 rfl)) (own_w hw 1 rfl) (ty := .int) (by decide) rfl rfl (g := (mkF m 7 #[.val (.ref q0), .val (.ref e0)] [(.int (m0 + (1 : Int32))), (.ref q0)])) rfl rfl (hb hby d_jdk_38_method_25_code_7)
  have F11_modCount := P1.same W11
  have N11 := Fr.snoc X11 N00 g_q0
  have O11 := O0.wr W11 g_q0
  have K11 := K00.wr W11 (Or.inl (List.mem_of_getElem? (i := 0) rfl))
  have f12 := (P2.other W11 (Or.inr (slot_ne (Or.inl (own_w hw 25 rfl)) (Or.inl (own_w hw 22 rfl)) (by decide) (t := (.array (.object "java/lang/Object"))) (t' := .int) (by decide) (by decide))))
  obtain ⟨T13, X13, e13, st13⟩ := getF X11 hx hZ hown (host := "") (Or.inl (own_w hw 24 rfl)) Via.refl e11 f12 (g := (mkF m 13 #[.val (.ref q0), .val (.ref e0)] [(.ref q0), (.ref e0), (.ref q0)])) rfl rfl (hb hby d_jdk_38_method_25_code_13)
  have f14 := (P3.other W11 (Or.inr (slot_ne (Or.inl (own_w hw 46 rfl)) (Or.inl (own_w hw 22 rfl)) (by decide) (t := .int) (t' := .int) (by decide) (by decide))))
  obtain ⟨T15, X15, e15, st15⟩ := getF X13 hx hZ hown (host := "") (Or.inl (own_w hw 45 rfl)) Via.refl e13 f14 (g := (mkF m 17 #[.val (.ref q0), .val (.ref e0)] [(.ref q0), (.ref t0), (.ref e0), (.ref q0)])) rfl rfl (hb hby d_jdk_38_method_25_code_17)
  have f16 := (P0.wr W11)
  have f17 := (P4.other W11 (Ne.symm nqt))
  have f18 := P5
  have f19 := (P6.wr W11)
  obtain ⟨cq20, q20, q20'⟩ := Exa.cell f16
  obtain ⟨_, _, ⟨T20, L20, k20, n20⟩, -, X20, ⟨Lc20, hQ20, l20, y20, z20⟩, st20⟩ := X15.privateBack hx (y := own_m9) hown (mvT hZ (own_w hw 47 rfl)) (mvT hZ (own_w hw 48 rfl)) (mvT hZ (own_w hw 50 rfl)) (Cond.privateMethod_at (mvP hZ (own_w hw 49 rfl) (args := #[]))) (mvT hZ (own_w hw 51 rfl)) (by decide) (backOf (W := 0) (rm_ap2 l Z a0 hw [] q0 (m0 + (1 : Int32)) e0 t0 k0 x0 x1 _ _ _ _ _ _ _ _ h11 n0 O11 hE f16 F11_modCount f12 f14 f17 f18 f19 g_q0 g_t0 nqt) hZ (own_w hw 51 rfl) (own_w hw 2 rfl) (by decide) (by decide)) (g := (mkF m 20 #[.val (.ref q0), .val (.ref e0)] [(.int (2 : Int32)), (.ref t0), (.ref e0), (.ref q0)])) rfl (by rw [hml]; rfl) (Steps.refl _) (a := q0) (by rw [e15]; exact q20) q20' (argsL := [(.ref e0), (.ref t0), (.int (2 : Int32))]) (rest := []) (lenOf pd__Ljava_lang_Object__Ljava_lang_Object_I_V rfl) rfl (by show 2 * 0 + _ ≤ _; exact Nat.le_of_eq rfl) (hb hby d_jdk_38_method_25_code_20) (fun _ _ => ⟨rfl, e15, (by decide : 0 + 0 ≤ _), (by decide : 0 + 0 ≤ _)⟩)
  dsimp only [Pt.U, Pt.locs, Pt.cells, Pt.slots] at X20 l20 y20 z20 st20 hQ20
  subst l20 y20 z20
  obtain ⟨rfl, N20q, O20, Kc20, F20_0, F20_1, F20_2, F20_3, F20_4, F20_5⟩ := hQ20
  have N20 := Fr.app N11 N20q
  have K20 := K11.trans Kc20 (allS (Or.inl (List.mem_of_getElem? (i := 0) rfl)) (allS (Or.inl (List.mem_of_getElem? (i := 1) rfl)) all0))
  have k21 : ∀ t, own_At p e below m T20 24 #[.val (.ref q0), .val (.ref e0)] [(.int (1 : Int32))] t → own_En p e below m s₁ #[(.ref q0), (.ref e0)] 2 t := by
    intro t k
    refine k00 t ?_
    refine XS.aloadN X00.here hx rfl (hb hby d_jdk_38_method_25_code_0) rfl rfl ?_
    show own_At p e below m s₁ 1 #[.val (.ref q0), .val (.ref e0)] [(.ref q0)] t
    refine XS.dup X00.here hx rfl (hb hby d_jdk_38_method_25_code_1) rfl rfl ?_
    show own_At p e below m s₁ 2 #[.val (.ref q0), .val (.ref e0)] [(.ref q0), (.ref q0)] t
    refine st10 _ ?_
    show own_At p e below m T10 5 #[.val (.ref q0), .val (.ref e0)] [(.int m0), (.ref q0)] t
    refine XS.iconst X10.here hx rfl (hb hby d_jdk_38_method_25_code_5) ?_
    show own_At p e below m T10 6 #[.val (.ref q0), .val (.ref e0)] [(.int (1 : Int32)), (.int m0), (.ref q0)] t
    refine XS.iadd X10.here hx rfl (hb hby d_jdk_38_method_25_code_6) rfl ?_
    show own_At p e below m T10 7 #[.val (.ref q0), .val (.ref e0)] [(.int (m0 + (1 : Int32))), (.ref q0)] t
    refine st11 _ ?_
    show own_At p e below m T11 10 #[.val (.ref q0), .val (.ref e0)] [] t
    refine XS.aloadN X11.here hx rfl (hb hby d_jdk_38_method_25_code_10) rfl rfl ?_
    show own_At p e below m T11 11 #[.val (.ref q0), .val (.ref e0)] [(.ref q0)] t
    refine XS.aloadN X11.here hx rfl (hb hby d_jdk_38_method_25_code_11) rfl rfl ?_
    show own_At p e below m T11 12 #[.val (.ref q0), .val (.ref e0)] [(.ref e0), (.ref q0)] t
    refine XS.aloadN X11.here hx rfl (hb hby d_jdk_38_method_25_code_12) rfl rfl ?_
    show own_At p e below m T11 13 #[.val (.ref q0), .val (.ref e0)] [(.ref q0), (.ref e0), (.ref q0)] t
    refine st13 _ ?_
    show own_At p e below m T13 16 #[.val (.ref q0), .val (.ref e0)] [(.ref t0), (.ref e0), (.ref q0)] t
    refine XS.aloadN X13.here hx rfl (hb hby d_jdk_38_method_25_code_16) rfl rfl ?_
    show own_At p e below m T13 17 #[.val (.ref q0), .val (.ref e0)] [(.ref q0), (.ref t0), (.ref e0), (.ref q0)] t
    refine st15 _ ?_
    show own_At p e below m T15 20 #[.val (.ref q0), .val (.ref e0)] [(.int (2 : Int32)), (.ref t0), (.ref e0), (.ref q0)] t
    refine st20.trans ?_
    show own_At p e below m T20 23 #[.val (.ref q0), .val (.ref e0)] [] t
    refine XS.iconst X20.here hx rfl (hb hby d_jdk_38_method_25_code_23) ?_
    show own_At p e below m T20 24 #[.val (.ref q0), .val (.ref e0)] [(.int (1 : Int32))] t
    exact k
  obtain ⟨fs, hr, hrun, hended, hW, hsame⟩ := X20.leave (v := some (.int (1 : Int32))) (fun h => by rw [Bd.returns] at h; cases h)
  refine hNG ⟨_, _, k21 _ ?_, hrun, hended, _, _, rfl, ?_, ⟨_, rfl⟩, hW, hsame.mono (by decide) (by decide)⟩
  · exact retN X20 hx (t := .boolean) Bd.returns (by simp) (hb hby d_jdk_38_method_25_code_24) hr
  · show Q_ad2 Z q0 m0 e0 t0 k0 x0 x1 a_EMPTY_ELEMENTDATA a_DEFAULTCAPACITY_EMPTY_ELEMENTDATA a_cache a_TRUE a_MILLISECONDS a_MILLISECONDS_name a_FALSE cl_cache h0 n0 _ T20.heap _
    exact ⟨rfl, N20, O20, K20, F20_0, F20_1, F20_2, F20_3, F20_4, F20_5⟩
theorem ef_ed2_0 (m : MethodId) (x0 : Addr) (x1 : Int32)  : entryFrame m #[(.ref x0), (.int x1)] 2 = mkF m 0 #[.val (.ref x0), .val (.int x1)] [] := by first | (simp [entryFrame, mkF, argsToLocals, Value.category]; done) | rfl
theorem d_jdk_38_method_18_code_0 : decode jdk_38_method_18_code 0 = .ok (.aload_n 0, 1) := by decide +kernel
theorem d_jdk_38_method_18_code_1 : decode jdk_38_method_18_code 1 = .ok (.getfield 9, 3) := by decide +kernel
theorem d_jdk_38_method_18_code_4 : decode jdk_38_method_18_code 4 = .ok (.iload_n 1, 1) := by decide +kernel
theorem d_jdk_38_method_18_code_5 : decode jdk_38_method_18_code 5 = .ok (.aaload, 1) := by decide +kernel
theorem d_jdk_38_method_18_code_6 : decode jdk_38_method_18_code 6 = .ok (.areturn, 1) := by decide +kernel
abbrev own_m11 : MethodName := ⟨"java/util/ArrayList", "elementData", "(I)Ljava/lang/Object;"⟩
def Q_ed2_0 (Z : State) (q0 : Addr) (t0 : Addr) (k0 : ClassId) (x0 : Addr) (x1 : Addr) (a_EMPTY_ELEMENTDATA : Addr) (a_DEFAULTCAPACITY_EMPTY_ELEMENTDATA : Addr) (a_cache : Addr) (a_TRUE : Addr) (a_MILLISECONDS : Addr) (a_MILLISECONDS_name : Addr) (a_FALSE : Addr) (cl_cache : Cell) (h0 : Heap) (n0 : Nat) (v : Option Value) (h : Heap) (L : List Loc) : Prop := v = some (.ref x0) ∧ Fr n0 L ∧ h = h0
set_option maxRecDepth 65536 in
set_option maxHeartbeats 40000000 in
theorem rm_ed2_0 (l : Launch) (Z : State) (a0 : Array Value) (hw : ∀ d ∈ tables_1, d.before a0 Z = true) (ws : List Jvm.Cond) (q0 : Addr) (t0 : Addr) (k0 : ClassId) (x0 : Addr) (x1 : Addr) (a_EMPTY_ELEMENTDATA : Addr) (a_DEFAULTCAPACITY_EMPTY_ELEMENTDATA : Addr) (a_cache : Addr) (a_TRUE : Addr) (a_MILLISECONDS : Addr) (a_MILLISECONDS_name : Addr) (a_FALSE : Addr) (cl_cache : Cell) (h0 : Heap) (n0 : Nat) (O0 : Old Z n0 h0) (hE : EV Z a_EMPTY_ELEMENTDATA a_DEFAULTCAPACITY_EMPTY_ELEMENTDATA a_cache a_TRUE a_MILLISECONDS a_MILLISECONDS_name a_FALSE cl_cache) (P0 : Fld Z h0 q0 "java/util/ArrayList" "elementData" "[Ljava/lang/Object;" (.ref t0)) (P1 : Arv Z h0 t0 k0 (.object "java/lang/Object") (10 : Int32) [(.ref x0), (.ref x1), .null, .null, .null, .null, .null, .null, .null, .null] .null) :
    MetFree l own_m11 (head1 (Jvm.Cond.code own_m11 jdk_38_method_18_code 2 (some (.object "java/lang/Object")) :: ws) ({ frames := 0, cells := 0, slots := 0, locals := 0 } : Room)) (fun a U => a = #[(.ref q0), (.int (0 : Int32))] ∧ Z.Warmed39 U.vm ∧ U.heap = h0) (fun _ _ _ _ _ => True) (fun _ U o U' => ∃ v L, o = .returned v ∧ Q_ed2_0 Z q0 t0 k0 x0 x1 a_EMPTY_ELEMENTDATA a_DEFAULTCAPACITY_EMPTY_ELEMENTDATA a_cache a_TRUE a_MILLISECONDS a_MILLISECONDS_name a_FALSE cl_cache h0 n0 v U'.heap L ∧ FrameEnd U o U' L ({ frames := 0, cells := 0, slots := 0, locals := 0 } : Room).cells ({ frames := 0, cells := 0, slots := 0, locals := 0 } : Room).slots) := by
  refine MetFree.of_bodySF (plainFor_of_name pn_java_util_ArrayList) hisR ?_
  intro p e s m args below meth c s₁ Bd hml0 hP hK
  obtain ⟨rfl, hZ, hh⟩ := hP
  have hx := Bd.exec
  have hby := Bd.bytes
  have hml : c.maxLocals = 2 := hml0
  have hown : s.vm.findClass "java/util/ArrayList" = some m.cls := findClass_of_methodNamed Bd.named
  have hnm := (name_of_methodNamed Bd.named Bd.method).1
  have X00 : Stand p l e ({ frames := 0, cells := 0, slots := 0, locals := 0 } : Room) s m #[(.ref q0), (.int (0 : Int32))] below meth c s₁ [] 0 0 := Stand.of_body Bd
  have e00 : s₁.heap = h0 := by rw [← hh, Bd.state]; rfl
  have N00 := Fr.nil n0
  refine Classical.byContradiction fun hNG => ?_
  have K00 := Keep.refl h0 []
  have k00 : ∀ t, own_At p e below m s₁ 0 #[.val (.ref q0), .val (.int (0 : Int32))] [] t → own_En p e below m s₁ #[(.ref q0), (.int (0 : Int32))] 2 t := fun t k => castTop (ef_ed2_0 m q0 ((0 : Int32)) ) k
  obtain ⟨S_EMPTY_ELEMENTDATA, E_EMPTY_ELEMENTDATA, S_DEFAULTCAPACITY_EMPTY_ELEMENTDATA, E_DEFAULTCAPACITY_EMPTY_ELEMENTDATA, S_cache, E_cache, S_TRUE, E_TRUE, F_TRUE_value, S_MILLISECONDS, E_MILLISECONDS, F_MILLISECONDS_name, E_MILLISECONDS_name, F_MILLISECONDS_ordinal, F_MILLISECONDS_scale, F_MILLISECONDS_maxNanos, F_MILLISECONDS_microRatio, F_MILLISECONDS_maxMicros, F_MILLISECONDS_milliRatio, F_MILLISECONDS_maxMillis, F_MILLISECONDS_secRatio, F_MILLISECONDS_maxSecs, S_FALSE, E_FALSE, F_FALSE_value, C_EMPTY_ELEMENTDATA, C_DEFAULTCAPACITY_EMPTY_ELEMENTDATA, B_cache⟩ := (id hE : EV Z a_EMPTY_ELEMENTDATA a_DEFAULTCAPACITY_EMPTY_ELEMENTDATA a_cache a_TRUE a_MILLISECONDS a_MILLISECONDS_name a_FALSE cl_cache)
  obtain ⟨k_DEF, A_DEF⟩ := C_DEFAULTCAPACITY_EMPTY_ELEMENTDATA.arv
  obtain ⟨T10, X10, e10, st10⟩ := getF X00 hx hZ hown (host := "") (Or.inl (own_w hw 24 rfl)) Via.refl e00 P0 (g := (mkF m 1 #[.val (.ref q0), .val (.int (0 : Int32))] [(.ref q0)])) rfl rfl (hb hby d_jdk_38_method_18_code_1)
  obtain ⟨cl11, Ar11, q11, Sz11, Nn11, Hs11, Gf11⟩ := id P1
  have hin12 : ¬ ((0 : Int32) < 0 ∨ cl11.slots.size ≤ ((0 : Int32)).toNatClampNeg) := inb_of Sz11 ⟨by decide, by decide⟩
  have hat13 : cl11.slots[((0 : Int32)).toNatClampNeg]? = some (.ref x0) := Hs11.at hin12 rfl
  have k14 : ∀ t, own_At p e below m T10 6 #[.val (.ref q0), .val (.int (0 : Int32))] [(.ref x0)] t → own_En p e below m s₁ #[(.ref q0), (.int (0 : Int32))] 2 t := by
    intro t k
    refine k00 t ?_
    refine XS.aloadN X00.here hx rfl (hb hby d_jdk_38_method_18_code_0) rfl rfl ?_
    show own_At p e below m s₁ 1 #[.val (.ref q0), .val (.int (0 : Int32))] [(.ref q0)] t
    refine st10 _ ?_
    show own_At p e below m T10 4 #[.val (.ref q0), .val (.int (0 : Int32))] [(.ref t0)] t
    refine XS.iloadN X10.here hx rfl (hb hby d_jdk_38_method_18_code_4) rfl ?_
    show own_At p e below m T10 5 #[.val (.ref q0), .val (.int (0 : Int32))] [(.int (0 : Int32)), (.ref t0)] t
    refine X10.aaload hx (j := (0 : Int32)) (v := (.ref x0)) (by rw [e10]; exact Ar11.1) (State.isArrayOf_alike hZ.alike Ar11.2.1) rfl Ar11.2.2 hin12 hat13 (g := (mkF m 5 #[.val (.ref q0), .val (.int (0 : Int32))] [(.int (0 : Int32)), (.ref t0)])) rfl rfl (hb hby d_jdk_38_method_18_code_5) _ ?_
    show own_At p e below m T10 6 #[.val (.ref q0), .val (.int (0 : Int32))] [(.ref x0)] t
    exact k
  obtain ⟨fs, hr, hrun, hended, hW, hsame⟩ := X10.leave (v := some (.ref x0)) (fun h => by rw [Bd.returns] at h; cases h)
  refine hNG ⟨_, _, k14 _ ?_, hrun, hended, _, _, rfl, ?_, ⟨_, rfl⟩, hW, hsame.mono (by decide) (by decide)⟩
  · exact retOut X10 hx (t := (.object "java/lang/Object")) Bd.returns rfl (Or.inr (Or.inr (Or.inr (Or.inr ⟨rfl, rfl, rfl⟩)))) (hb hby d_jdk_38_method_18_code_6) hr
  · show Q_ed2_0 Z q0 t0 k0 x0 x1 a_EMPTY_ELEMENTDATA a_DEFAULTCAPACITY_EMPTY_ELEMENTDATA a_cache a_TRUE a_MILLISECONDS a_MILLISECONDS_name a_FALSE cl_cache h0 n0 _ T10.heap _
    rw [e10]
    exact ⟨rfl, N00, rfl⟩
theorem ef_get2_0 (m : MethodId) (x0 : Addr) (x1 : Int32)  : entryFrame m #[(.ref x0), (.int x1)] 2 = mkF m 0 #[.val (.ref x0), .val (.int x1)] [] := by first | (simp [entryFrame, mkF, argsToLocals, Value.category]; done) | rfl
theorem d_jdk_38_method_20_code_0 : decode jdk_38_method_20_code 0 = .ok (.iload_n 1, 1) := by decide +kernel
theorem d_jdk_38_method_20_code_1 : decode jdk_38_method_20_code 1 = .ok (.aload_n 0, 1) := by decide +kernel
theorem d_jdk_38_method_20_code_2 : decode jdk_38_method_20_code 2 = .ok (.getfield 48, 3) := by decide +kernel
theorem d_jdk_38_method_20_code_5 : decode jdk_38_method_20_code 5 = .ok (.invokestatic 118, 3) := by decide +kernel
theorem ef_f4 (m : MethodId) (x0 : Int32) (x1 : Int32)  : entryFrame m #[(.int x0), (.int x1)] 2 = mkF m 0 #[.val (.int x0), .val (.int x1)] [] := by first | (simp [entryFrame, mkF, argsToLocals, Value.category]; done) | rfl
theorem d_jdk_31_method_17_code_0 : decode jdk_31_method_17_code 0 = .ok (.iload_n 0, 1) := by decide +kernel
theorem d_jdk_31_method_17_code_1 : decode jdk_31_method_17_code 1 = .ok (.iload_n 1, 1) := by decide +kernel
theorem d_jdk_31_method_17_code_2 : decode jdk_31_method_17_code 2 = .ok (.aconst_null, 1) := by decide +kernel
theorem d_jdk_31_method_17_code_3 : decode jdk_31_method_17_code 3 = .ok (.invokestatic 105, 3) := by decide +kernel
theorem ef_f5 (m : MethodId) (x0 : Int32) (x1 : Int32)  : entryFrame m #[(.int x0), (.int x1), .null] 3 = mkF m 0 #[.val (.int x0), .val (.int x1), .val .null] [] := by first | (simp [entryFrame, mkF, argsToLocals, Value.category]; done) | rfl
theorem d_jdk_41_method_11_code_0 : decode jdk_41_method_11_code 0 = .ok (.iload_n 0, 1) := by decide +kernel
theorem d_jdk_41_method_11_code_1 : decode jdk_41_method_11_code 1 = .ok (.ifCond .lt 8, 3) := by decide +kernel
theorem d_jdk_41_method_11_code_4 : decode jdk_41_method_11_code 4 = .ok (.iload_n 0, 1) := by decide +kernel
theorem d_jdk_41_method_11_code_5 : decode jdk_41_method_11_code 5 = .ok (.iload_n 1, 1) := by decide +kernel
theorem d_jdk_41_method_11_code_6 : decode jdk_41_method_11_code 6 = .ok (.if_icmp .lt 10, 3) := by decide +kernel
theorem d_jdk_41_method_11_code_16 : decode jdk_41_method_11_code 16 = .ok (.iload_n 0, 1) := by decide +kernel
theorem d_jdk_41_method_11_code_17 : decode jdk_41_method_11_code 17 = .ok (.ireturn, 1) := by decide +kernel
theorem pn_jdk_internal_util_Preconditions : plainName "jdk/internal/util/Preconditions" = true := by first | (simp [plainName, overriddenIn]; done) | decide +kernel
abbrev own_m12 : MethodName := ⟨"jdk/internal/util/Preconditions", "checkIndex", "(IILjava/util/function/BiFunction;)I"⟩
def Q_f5 (Z : State) (a_EMPTY_ELEMENTDATA : Addr) (a_DEFAULTCAPACITY_EMPTY_ELEMENTDATA : Addr) (a_cache : Addr) (a_TRUE : Addr) (a_MILLISECONDS : Addr) (a_MILLISECONDS_name : Addr) (a_FALSE : Addr) (cl_cache : Cell) (h0 : Heap) (n0 : Nat) (v : Option Value) (h : Heap) (L : List Loc) : Prop := v = some (.int (0 : Int32)) ∧ Fr n0 L ∧ h = h0
set_option maxRecDepth 65536 in
set_option maxHeartbeats 40000000 in
theorem rm_f5 (l : Launch) (Z : State) (a0 : Array Value) (hw : ∀ d ∈ tables_1, d.before a0 Z = true) (ws : List Jvm.Cond) (a_EMPTY_ELEMENTDATA : Addr) (a_DEFAULTCAPACITY_EMPTY_ELEMENTDATA : Addr) (a_cache : Addr) (a_TRUE : Addr) (a_MILLISECONDS : Addr) (a_MILLISECONDS_name : Addr) (a_FALSE : Addr) (cl_cache : Cell) (h0 : Heap) (n0 : Nat) (O0 : Old Z n0 h0) (hE : EV Z a_EMPTY_ELEMENTDATA a_DEFAULTCAPACITY_EMPTY_ELEMENTDATA a_cache a_TRUE a_MILLISECONDS a_MILLISECONDS_name a_FALSE cl_cache) :
    MetFree l own_m12 (head1 (Jvm.Cond.code own_m12 jdk_41_method_11_code 3 (some .int) :: ws) ({ frames := 0, cells := 0, slots := 0, locals := 0 } : Room)) (fun a U => a = #[(.int (0 : Int32)), (.int (2 : Int32)), .null] ∧ Z.Warmed39 U.vm ∧ U.heap = h0) (fun _ _ _ _ _ => True) (fun _ U o U' => ∃ v L, o = .returned v ∧ Q_f5 Z a_EMPTY_ELEMENTDATA a_DEFAULTCAPACITY_EMPTY_ELEMENTDATA a_cache a_TRUE a_MILLISECONDS a_MILLISECONDS_name a_FALSE cl_cache h0 n0 v U'.heap L ∧ FrameEnd U o U' L ({ frames := 0, cells := 0, slots := 0, locals := 0 } : Room).cells ({ frames := 0, cells := 0, slots := 0, locals := 0 } : Room).slots) := by
  refine MetFree.of_bodySF (plainFor_of_name pn_jdk_internal_util_Preconditions) hisR ?_
  intro p e s m args below meth c s₁ Bd hml0 hP hK
  obtain ⟨rfl, hZ, hh⟩ := hP
  have hx := Bd.exec
  have hby := Bd.bytes
  have hml : c.maxLocals = 3 := hml0
  have hown : s.vm.findClass "jdk/internal/util/Preconditions" = some m.cls := findClass_of_methodNamed Bd.named
  have hnm := (name_of_methodNamed Bd.named Bd.method).1
  have X00 : Stand p l e ({ frames := 0, cells := 0, slots := 0, locals := 0 } : Room) s m #[(.int (0 : Int32)), (.int (2 : Int32)), .null] below meth c s₁ [] 0 0 := Stand.of_body Bd
  have e00 : s₁.heap = h0 := by rw [← hh, Bd.state]; rfl
  have N00 := Fr.nil n0
  refine Classical.byContradiction fun hNG => ?_
  have K00 := Keep.refl h0 []
  have k00 : ∀ t, own_At p e below m s₁ 0 #[.val (.int (0 : Int32)), .val (.int (2 : Int32)), .val .null] [] t → own_En p e below m s₁ #[(.int (0 : Int32)), (.int (2 : Int32)), .null] 3 t := fun t k => castTop (ef_f5 m ((0 : Int32)) ((2 : Int32)) ) k
  obtain ⟨S_EMPTY_ELEMENTDATA, E_EMPTY_ELEMENTDATA, S_DEFAULTCAPACITY_EMPTY_ELEMENTDATA, E_DEFAULTCAPACITY_EMPTY_ELEMENTDATA, S_cache, E_cache, S_TRUE, E_TRUE, F_TRUE_value, S_MILLISECONDS, E_MILLISECONDS, F_MILLISECONDS_name, E_MILLISECONDS_name, F_MILLISECONDS_ordinal, F_MILLISECONDS_scale, F_MILLISECONDS_maxNanos, F_MILLISECONDS_microRatio, F_MILLISECONDS_maxMicros, F_MILLISECONDS_milliRatio, F_MILLISECONDS_maxMillis, F_MILLISECONDS_secRatio, F_MILLISECONDS_maxSecs, S_FALSE, E_FALSE, F_FALSE_value, C_EMPTY_ELEMENTDATA, C_DEFAULTCAPACITY_EMPTY_ELEMENTDATA, B_cache⟩ := (id hE : EV Z a_EMPTY_ELEMENTDATA a_DEFAULTCAPACITY_EMPTY_ELEMENTDATA a_cache a_TRUE a_MILLISECONDS a_MILLISECONDS_name a_FALSE cl_cache)
  obtain ⟨k_DEF, A_DEF⟩ := C_DEFAULTCAPACITY_EMPTY_ELEMENTDATA.arv
  have k10 : ∀ t, own_At p e below m s₁ 17 #[.val (.int (0 : Int32)), .val (.int (2 : Int32)), .val .null] [(.int (0 : Int32))] t → own_En p e below m s₁ #[(.int (0 : Int32)), (.int (2 : Int32)), .null] 3 t := by
    intro t k
    refine k00 t ?_
    refine XS.iloadN X00.here hx rfl (hb hby d_jdk_41_method_11_code_0) rfl ?_
    show own_At p e below m s₁ 1 #[.val (.int (0 : Int32)), .val (.int (2 : Int32)), .val .null] [(.int (0 : Int32))] t
    refine XS.ifNo X00.here hx rfl (hb hby d_jdk_41_method_11_code_1) rfl ((if0 _ _).trans (flt (by decide : ¬ ((0 : Int32) < (0 : Int32)))).1) ?_
    show own_At p e below m s₁ 4 #[.val (.int (0 : Int32)), .val (.int (2 : Int32)), .val .null] [] t
    refine XS.iloadN X00.here hx rfl (hb hby d_jdk_41_method_11_code_4) rfl ?_
    show own_At p e below m s₁ 5 #[.val (.int (0 : Int32)), .val (.int (2 : Int32)), .val .null] [(.int (0 : Int32))] t
    refine XS.iloadN X00.here hx rfl (hb hby d_jdk_41_method_11_code_5) rfl ?_
    show own_At p e below m s₁ 6 #[.val (.int (0 : Int32)), .val (.int (2 : Int32)), .val .null] [(.int (2 : Int32)), (.int (0 : Int32))] t
    refine XS.icmpYes X00.here hx rfl (pc0 := 6) (pc' := 16) rfl (hb hby d_jdk_41_method_11_code_6) rfl (tlt (by decide : (0 : Int32) < (2 : Int32))).1 (by decide) (by decide) ?_
    show own_At p e below m s₁ 16 #[.val (.int (0 : Int32)), .val (.int (2 : Int32)), .val .null] [] t
    refine XS.iloadN X00.here hx rfl (hb hby d_jdk_41_method_11_code_16) rfl ?_
    show own_At p e below m s₁ 17 #[.val (.int (0 : Int32)), .val (.int (2 : Int32)), .val .null] [(.int (0 : Int32))] t
    exact k
  obtain ⟨fs, hr, hrun, hended, hW, hsame⟩ := X00.leave (v := some (.int (0 : Int32))) (fun h => by rw [Bd.returns] at h; cases h)
  refine hNG ⟨_, _, k10 _ ?_, hrun, hended, _, _, rfl, ?_, ⟨_, rfl⟩, hW, hsame.mono (by decide) (by decide)⟩
  · exact retOut X00 hx (t := .int) Bd.returns rfl (Or.inl ⟨rfl, Or.inl rfl, _, rfl⟩) (hb hby d_jdk_41_method_11_code_17) hr
  · show Q_f5 Z a_EMPTY_ELEMENTDATA a_DEFAULTCAPACITY_EMPTY_ELEMENTDATA a_cache a_TRUE a_MILLISECONDS a_MILLISECONDS_name a_FALSE cl_cache h0 n0 _ s₁.heap _
    rw [e00]
    exact ⟨rfl, N00, rfl⟩
theorem pd__IILjava_util_function_BiFunction__I : parseMethodDescriptor "(IILjava/util/function/BiFunction;)I" = some ⟨[.int, .int, (.object "java/util/function/BiFunction")], some .int⟩ := by decide +kernel
theorem d_jdk_31_method_17_code_6 : decode jdk_31_method_17_code 6 = .ok (.ireturn, 1) := by decide +kernel
theorem pn_java_util_Objects : plainName "java/util/Objects" = true := by first | (simp [plainName, overriddenIn]; done) | decide +kernel
abbrev own_m13 : MethodName := ⟨"java/util/Objects", "checkIndex", "(II)I"⟩
def Q_f4 (Z : State) (a_EMPTY_ELEMENTDATA : Addr) (a_DEFAULTCAPACITY_EMPTY_ELEMENTDATA : Addr) (a_cache : Addr) (a_TRUE : Addr) (a_MILLISECONDS : Addr) (a_MILLISECONDS_name : Addr) (a_FALSE : Addr) (cl_cache : Cell) (h0 : Heap) (n0 : Nat) (v : Option Value) (h : Heap) (L : List Loc) : Prop := v = some (.int (0 : Int32)) ∧ Fr n0 L ∧ h = h0
set_option maxRecDepth 65536 in
set_option maxHeartbeats 40000000 in
theorem rm_f4 (l : Launch) (Z : State) (a0 : Array Value) (hw : ∀ d ∈ tables_1, d.before a0 Z = true) (ws : List Jvm.Cond) (a_EMPTY_ELEMENTDATA : Addr) (a_DEFAULTCAPACITY_EMPTY_ELEMENTDATA : Addr) (a_cache : Addr) (a_TRUE : Addr) (a_MILLISECONDS : Addr) (a_MILLISECONDS_name : Addr) (a_FALSE : Addr) (cl_cache : Cell) (h0 : Heap) (n0 : Nat) (O0 : Old Z n0 h0) (hE : EV Z a_EMPTY_ELEMENTDATA a_DEFAULTCAPACITY_EMPTY_ELEMENTDATA a_cache a_TRUE a_MILLISECONDS a_MILLISECONDS_name a_FALSE cl_cache) :
    MetFree l own_m13 (head1 (Jvm.Cond.code own_m13 jdk_31_method_17_code 2 (some .int) :: ws) ({ frames := 1, cells := 0, slots := 0, locals := 14 } : Room)) (fun a U => a = #[(.int (0 : Int32)), (.int (2 : Int32))] ∧ Z.Warmed39 U.vm ∧ U.heap = h0) (fun _ _ _ _ _ => True) (fun _ U o U' => ∃ v L, o = .returned v ∧ Q_f4 Z a_EMPTY_ELEMENTDATA a_DEFAULTCAPACITY_EMPTY_ELEMENTDATA a_cache a_TRUE a_MILLISECONDS a_MILLISECONDS_name a_FALSE cl_cache h0 n0 v U'.heap L ∧ FrameEnd U o U' L ({ frames := 1, cells := 0, slots := 0, locals := 14 } : Room).cells ({ frames := 1, cells := 0, slots := 0, locals := 14 } : Room).slots) := by
  refine MetFree.of_bodySF (plainFor_of_name pn_java_util_Objects) hisR ?_
  intro p e s m args below meth c s₁ Bd hml0 hP hK
  obtain ⟨rfl, hZ, hh⟩ := hP
  have hx := Bd.exec
  have hby := Bd.bytes
  have hml : c.maxLocals = 2 := hml0
  have hown : s.vm.findClass "java/util/Objects" = some m.cls := findClass_of_methodNamed Bd.named
  have hnm := (name_of_methodNamed Bd.named Bd.method).1
  have X00 : Stand p l e ({ frames := 1, cells := 0, slots := 0, locals := 14 } : Room) s m #[(.int (0 : Int32)), (.int (2 : Int32))] below meth c s₁ [] 0 0 := Stand.of_body Bd
  have e00 : s₁.heap = h0 := by rw [← hh, Bd.state]; rfl
  have N00 := Fr.nil n0
  refine Classical.byContradiction fun hNG => ?_
  have K00 := Keep.refl h0 []
  have k00 : ∀ t, own_At p e below m s₁ 0 #[.val (.int (0 : Int32)), .val (.int (2 : Int32))] [] t → own_En p e below m s₁ #[(.int (0 : Int32)), (.int (2 : Int32))] 2 t := fun t k => castTop (ef_f4 m ((0 : Int32)) ((2 : Int32)) ) k
  obtain ⟨S_EMPTY_ELEMENTDATA, E_EMPTY_ELEMENTDATA, S_DEFAULTCAPACITY_EMPTY_ELEMENTDATA, E_DEFAULTCAPACITY_EMPTY_ELEMENTDATA, S_cache, E_cache, S_TRUE, E_TRUE, F_TRUE_value, S_MILLISECONDS, E_MILLISECONDS, F_MILLISECONDS_name, E_MILLISECONDS_name, F_MILLISECONDS_ordinal, F_MILLISECONDS_scale, F_MILLISECONDS_maxNanos, F_MILLISECONDS_microRatio, F_MILLISECONDS_maxMicros, F_MILLISECONDS_milliRatio, F_MILLISECONDS_maxMillis, F_MILLISECONDS_secRatio, F_MILLISECONDS_maxSecs, S_FALSE, E_FALSE, F_FALSE_value, C_EMPTY_ELEMENTDATA, C_DEFAULTCAPACITY_EMPTY_ELEMENTDATA, B_cache⟩ := (id hE : EV Z a_EMPTY_ELEMENTDATA a_DEFAULTCAPACITY_EMPTY_ELEMENTDATA a_cache a_TRUE a_MILLISECONDS a_MILLISECONDS_name a_FALSE cl_cache)
  obtain ⟨k_DEF, A_DEF⟩ := C_DEFAULTCAPACITY_EMPTY_ELEMENTDATA.arv
  obtain ⟨_, _, ⟨T10, L10, k10, n10⟩, -, X10, ⟨Lc10, hQ10, l10, y10, z10⟩, st10⟩ := Jvm.LawKit.callS X00 hx (y := own_m12) hown (mvT hZ (own_w hw 85 rfl)) (mvT hZ (own_w hw 86 rfl)) (mvT hZ (own_w hw 87 rfl)) (mvT hZ (own_w hw 88 rfl)) (by decide) (backOf (W := 0) (rm_f5 l Z a0 hw []  _ _ _ _ _ _ _ _ h0 n0 O0 hE) hZ (own_w hw 88 rfl) (own_w hw 87 rfl) (by decide) (by decide)) (g := (mkF m 3 #[.val (.int (0 : Int32)), .val (.int (2 : Int32))] [.null, (.int (2 : Int32)), (.int (0 : Int32))])) rfl (by rw [hml]; rfl) (argsL := [(.int (0 : Int32)), (.int (2 : Int32)), .null]) (rest := []) (lenOf pd__IILjava_util_function_BiFunction__I rfl) rfl (by show 2 * 0 + _ ≤ _; exact Nat.le_of_eq rfl) (hb hby d_jdk_31_method_17_code_3) (fun _ _ => ⟨rfl, e00, (by decide : 0 + 0 ≤ _), (by decide : 0 + 0 ≤ _)⟩)
  dsimp only [Pt.U, Pt.locs, Pt.cells, Pt.slots] at X10 l10 y10 z10 st10 hQ10
  subst l10 y10 z10
  obtain ⟨rfl, N10q, hp10⟩ := hQ10
  have N10 := Fr.app N00 N10q
  have k11 : ∀ t, own_At p e below m T10 6 #[.val (.int (0 : Int32)), .val (.int (2 : Int32))] [(.int (0 : Int32))] t → own_En p e below m s₁ #[(.int (0 : Int32)), (.int (2 : Int32))] 2 t := by
    intro t k
    refine k00 t ?_
    refine XS.iloadN X00.here hx rfl (hb hby d_jdk_31_method_17_code_0) rfl ?_
    show own_At p e below m s₁ 1 #[.val (.int (0 : Int32)), .val (.int (2 : Int32))] [(.int (0 : Int32))] t
    refine XS.iloadN X00.here hx rfl (hb hby d_jdk_31_method_17_code_1) rfl ?_
    show own_At p e below m s₁ 2 #[.val (.int (0 : Int32)), .val (.int (2 : Int32))] [(.int (2 : Int32)), (.int (0 : Int32))] t
    refine XS.aconstNull X00.here hx rfl (hb hby d_jdk_31_method_17_code_2) ?_
    show own_At p e below m s₁ 3 #[.val (.int (0 : Int32)), .val (.int (2 : Int32))] [.null, (.int (2 : Int32)), (.int (0 : Int32))] t
    refine st10 _ ?_
    show own_At p e below m T10 6 #[.val (.int (0 : Int32)), .val (.int (2 : Int32))] [(.int (0 : Int32))] t
    exact k
  obtain ⟨fs, hr, hrun, hended, hW, hsame⟩ := X10.leave (v := some (.int (0 : Int32))) (fun h => by rw [Bd.returns] at h; cases h)
  refine hNG ⟨_, _, k11 _ ?_, hrun, hended, _, _, rfl, ?_, ⟨_, rfl⟩, hW, hsame.mono (by decide) (by decide)⟩
  · exact retOut X10 hx (t := .int) Bd.returns rfl (Or.inl ⟨rfl, Or.inl rfl, _, rfl⟩) (hb hby d_jdk_31_method_17_code_6) hr
  · show Q_f4 Z a_EMPTY_ELEMENTDATA a_DEFAULTCAPACITY_EMPTY_ELEMENTDATA a_cache a_TRUE a_MILLISECONDS a_MILLISECONDS_name a_FALSE cl_cache h0 n0 _ T10.heap _
    rw [hp10]
    exact ⟨rfl, N10, rfl⟩
theorem d_jdk_38_method_20_code_8 : decode jdk_38_method_20_code 8 = .ok (.pop, 1) := by decide +kernel
theorem d_jdk_38_method_20_code_9 : decode jdk_38_method_20_code 9 = .ok (.aload_n 0, 1) := by decide +kernel
theorem d_jdk_38_method_20_code_10 : decode jdk_38_method_20_code 10 = .ok (.iload_n 1, 1) := by decide +kernel
theorem d_jdk_38_method_20_code_11 : decode jdk_38_method_20_code 11 = .ok (.invokevirtual 123, 3) := by decide +kernel
theorem pd__I_Ljava_lang_Object_ : parseMethodDescriptor "(I)Ljava/lang/Object;" = some ⟨[.int], some (.object "java/lang/Object")⟩ := by decide +kernel
theorem d_jdk_38_method_20_code_14 : decode jdk_38_method_20_code 14 = .ok (.areturn, 1) := by decide +kernel
abbrev own_m14 : MethodName := ⟨"java/util/ArrayList", "get", "(I)Ljava/lang/Object;"⟩
def Q_get2_0 (Z : State) (q0 : Addr) (t0 : Addr) (k0 : ClassId) (x0 : Addr) (x1 : Addr) (a_EMPTY_ELEMENTDATA : Addr) (a_DEFAULTCAPACITY_EMPTY_ELEMENTDATA : Addr) (a_cache : Addr) (a_TRUE : Addr) (a_MILLISECONDS : Addr) (a_MILLISECONDS_name : Addr) (a_FALSE : Addr) (cl_cache : Cell) (h0 : Heap) (n0 : Nat) (v : Option Value) (h : Heap) (L : List Loc) : Prop := v = some (.ref x0) ∧ Fr n0 L ∧ h = h0
set_option maxRecDepth 65536 in
set_option maxHeartbeats 40000000 in
theorem rm_get2_0 (l : Launch) (Z : State) (a0 : Array Value) (hw : ∀ d ∈ tables_1, d.before a0 Z = true) (ws : List Jvm.Cond) (q0 : Addr) (t0 : Addr) (k0 : ClassId) (x0 : Addr) (x1 : Addr) (a_EMPTY_ELEMENTDATA : Addr) (a_DEFAULTCAPACITY_EMPTY_ELEMENTDATA : Addr) (a_cache : Addr) (a_TRUE : Addr) (a_MILLISECONDS : Addr) (a_MILLISECONDS_name : Addr) (a_FALSE : Addr) (cl_cache : Cell) (h0 : Heap) (n0 : Nat) (O0 : Old Z n0 h0) (hE : EV Z a_EMPTY_ELEMENTDATA a_DEFAULTCAPACITY_EMPTY_ELEMENTDATA a_cache a_TRUE a_MILLISECONDS a_MILLISECONDS_name a_FALSE cl_cache) (P0 : Fld Z h0 q0 "java/util/ArrayList" "elementData" "[Ljava/lang/Object;" (.ref t0)) (P1 : Arv Z h0 t0 k0 (.object "java/lang/Object") (10 : Int32) [(.ref x0), (.ref x1), .null, .null, .null, .null, .null, .null, .null, .null] .null) (P2 : Fld Z h0 q0 "java/util/ArrayList" "size" "I" (.int (2 : Int32))) (P3 : Exa Z h0 q0 "java/util/ArrayList") :
    MetFree l own_m14 (head1 (Jvm.Cond.code own_m14 jdk_38_method_20_code 2 (some (.object "java/lang/Object")) :: ws) ({ frames := 2, cells := 0, slots := 0, locals := 27 } : Room)) (fun a U => a = #[(.ref q0), (.int (0 : Int32))] ∧ Z.Warmed39 U.vm ∧ U.heap = h0) (fun _ _ _ _ _ => True) (fun _ U o U' => ∃ v L, o = .returned v ∧ Q_get2_0 Z q0 t0 k0 x0 x1 a_EMPTY_ELEMENTDATA a_DEFAULTCAPACITY_EMPTY_ELEMENTDATA a_cache a_TRUE a_MILLISECONDS a_MILLISECONDS_name a_FALSE cl_cache h0 n0 v U'.heap L ∧ FrameEnd U o U' L ({ frames := 2, cells := 0, slots := 0, locals := 27 } : Room).cells ({ frames := 2, cells := 0, slots := 0, locals := 27 } : Room).slots) := by
  refine MetFree.of_bodySF (plainFor_of_name pn_java_util_ArrayList) hisR ?_
  intro p e s m args below meth c s₁ Bd hml0 hP hK
  obtain ⟨rfl, hZ, hh⟩ := hP
  have hx := Bd.exec
  have hby := Bd.bytes
  have hml : c.maxLocals = 2 := hml0
  have hown : s.vm.findClass "java/util/ArrayList" = some m.cls := findClass_of_methodNamed Bd.named
  have hnm := (name_of_methodNamed Bd.named Bd.method).1
  have X00 : Stand p l e ({ frames := 2, cells := 0, slots := 0, locals := 27 } : Room) s m #[(.ref q0), (.int (0 : Int32))] below meth c s₁ [] 0 0 := Stand.of_body Bd
  have e00 : s₁.heap = h0 := by rw [← hh, Bd.state]; rfl
  have N00 := Fr.nil n0
  refine Classical.byContradiction fun hNG => ?_
  have K00 := Keep.refl h0 []
  have k00 : ∀ t, own_At p e below m s₁ 0 #[.val (.ref q0), .val (.int (0 : Int32))] [] t → own_En p e below m s₁ #[(.ref q0), (.int (0 : Int32))] 2 t := fun t k => castTop (ef_get2_0 m q0 ((0 : Int32)) ) k
  obtain ⟨S_EMPTY_ELEMENTDATA, E_EMPTY_ELEMENTDATA, S_DEFAULTCAPACITY_EMPTY_ELEMENTDATA, E_DEFAULTCAPACITY_EMPTY_ELEMENTDATA, S_cache, E_cache, S_TRUE, E_TRUE, F_TRUE_value, S_MILLISECONDS, E_MILLISECONDS, F_MILLISECONDS_name, E_MILLISECONDS_name, F_MILLISECONDS_ordinal, F_MILLISECONDS_scale, F_MILLISECONDS_maxNanos, F_MILLISECONDS_microRatio, F_MILLISECONDS_maxMicros, F_MILLISECONDS_milliRatio, F_MILLISECONDS_maxMillis, F_MILLISECONDS_secRatio, F_MILLISECONDS_maxSecs, S_FALSE, E_FALSE, F_FALSE_value, C_EMPTY_ELEMENTDATA, C_DEFAULTCAPACITY_EMPTY_ELEMENTDATA, B_cache⟩ := (id hE : EV Z a_EMPTY_ELEMENTDATA a_DEFAULTCAPACITY_EMPTY_ELEMENTDATA a_cache a_TRUE a_MILLISECONDS a_MILLISECONDS_name a_FALSE cl_cache)
  obtain ⟨k_DEF, A_DEF⟩ := C_DEFAULTCAPACITY_EMPTY_ELEMENTDATA.arv
  obtain ⟨T10, X10, e10, st10⟩ := getF X00 hx hZ hown (host := "") (Or.inl (own_w hw 45 rfl)) Via.refl e00 P2 (g := (mkF m 2 #[.val (.ref q0), .val (.int (0 : Int32))] [(.ref q0), (.int (0 : Int32))])) rfl rfl (hb hby d_jdk_38_method_20_code_2)
  obtain ⟨_, _, ⟨T11, L11, k11, n11⟩, -, X11, ⟨Lc11, hQ11, l11, y11, z11⟩, st11⟩ := Jvm.LawKit.callS X10 hx (y := own_m13) hown (mvT hZ (own_w hw 81 rfl)) (mvT hZ (own_w hw 82 rfl)) (mvT hZ (own_w hw 83 rfl)) (mvT hZ (own_w hw 84 rfl)) (by decide) (backOf (W := 0) (rm_f4 l Z a0 hw []  _ _ _ _ _ _ _ _ h0 n0 O0 hE) hZ (own_w hw 84 rfl) (own_w hw 83 rfl) (by decide) (by decide)) (g := (mkF m 5 #[.val (.ref q0), .val (.int (0 : Int32))] [(.int (2 : Int32)), (.int (0 : Int32))])) rfl (by rw [hml]; rfl) (argsL := [(.int (0 : Int32)), (.int (2 : Int32))]) (rest := []) (lenOf pd__II_I rfl) rfl (by show 2 * 0 + _ ≤ _; exact Nat.le_of_eq rfl) (hb hby d_jdk_38_method_20_code_5) (fun _ _ => ⟨rfl, e10, (by decide : 0 + 0 ≤ _), (by decide : 0 + 0 ≤ _)⟩)
  dsimp only [Pt.U, Pt.locs, Pt.cells, Pt.slots] at X11 l11 y11 z11 st11 hQ11
  subst l11 y11 z11
  obtain ⟨rfl, N11q, hp11⟩ := hQ11
  have N11 := Fr.app N00 N11q
  obtain ⟨cq12, kq12, q12a, q12b, q12c⟩ := isOf hZ hp11 P3
  obtain ⟨_, _, ⟨T12, L12, k12, n12⟩, -, X12, ⟨Lc12, hQ12, l12, y12, z12⟩, st12⟩ := X11.virtualBack hx (y := own_m11) (z := own_m11) hown (mvT hZ (own_w hw 89 rfl)) (mvT hZ (own_w hw 90 rfl)) (notFace_of_selects (args := #[]) (mvT hZ (own_w hw 92 rfl))) (mvT hZ (own_w hw 92 rfl)) (mvT hZ (own_w hw 91 rfl)) (by decide) (backOf (W := 0) (rm_ed2_0 l Z a0 hw [] q0 t0 k0 x0 x1 _ _ _ _ _ _ _ _ h0 n0 O0 hE P0 P1 ) hZ (own_w hw 93 rfl) (own_w hw 2 rfl) (by decide) (by decide)) q12a q12c (g := (mkF m 11 #[.val (.ref q0), .val (.int (0 : Int32))] [(.int (0 : Int32)), (.ref q0)])) rfl (by rw [hml]; rfl) (Steps.refl _) (argsL := [(.int (0 : Int32))]) (rest := []) (lenOf pd__I_Ljava_lang_Object_ rfl) rfl (by show 2 * 0 + _ ≤ _; exact Nat.le_of_eq rfl) (hb hby d_jdk_38_method_20_code_11) (fun _ _ => ⟨rfl, hp11, (by decide : 0 + 0 ≤ _), (by decide : 0 + 0 ≤ _)⟩)
  dsimp only [Pt.U, Pt.locs, Pt.cells, Pt.slots] at X12 l12 y12 z12 st12 hQ12
  subst l12 y12 z12
  obtain ⟨rfl, N12q, hp12⟩ := hQ12
  have N12 := Fr.app N11 N12q
  have k13 : ∀ t, own_At p e below m T12 14 #[.val (.ref q0), .val (.int (0 : Int32))] [(.ref x0)] t → own_En p e below m s₁ #[(.ref q0), (.int (0 : Int32))] 2 t := by
    intro t k
    refine k00 t ?_
    refine XS.iloadN X00.here hx rfl (hb hby d_jdk_38_method_20_code_0) rfl ?_
    show own_At p e below m s₁ 1 #[.val (.ref q0), .val (.int (0 : Int32))] [(.int (0 : Int32))] t
    refine XS.aloadN X00.here hx rfl (hb hby d_jdk_38_method_20_code_1) rfl rfl ?_
    show own_At p e below m s₁ 2 #[.val (.ref q0), .val (.int (0 : Int32))] [(.ref q0), (.int (0 : Int32))] t
    refine st10 _ ?_
    show own_At p e below m T10 5 #[.val (.ref q0), .val (.int (0 : Int32))] [(.int (2 : Int32)), (.int (0 : Int32))] t
    refine st11 _ ?_
    show own_At p e below m T11 8 #[.val (.ref q0), .val (.int (0 : Int32))] [(.int (0 : Int32))] t
    refine XS.pop X11.here hx rfl (hb hby d_jdk_38_method_20_code_8) rfl rfl ?_
    show own_At p e below m T11 9 #[.val (.ref q0), .val (.int (0 : Int32))] [] t
    refine XS.aloadN X11.here hx rfl (hb hby d_jdk_38_method_20_code_9) rfl rfl ?_
    show own_At p e below m T11 10 #[.val (.ref q0), .val (.int (0 : Int32))] [(.ref q0)] t
    refine XS.iloadN X11.here hx rfl (hb hby d_jdk_38_method_20_code_10) rfl ?_
    show own_At p e below m T11 11 #[.val (.ref q0), .val (.int (0 : Int32))] [(.int (0 : Int32)), (.ref q0)] t
    refine st12.trans ?_
    show own_At p e below m T12 14 #[.val (.ref q0), .val (.int (0 : Int32))] [(.ref x0)] t
    exact k
  obtain ⟨fs, hr, hrun, hended, hW, hsame⟩ := X12.leave (v := some (.ref x0)) (fun h => by rw [Bd.returns] at h; cases h)
  refine hNG ⟨_, _, k13 _ ?_, hrun, hended, _, _, rfl, ?_, ⟨_, rfl⟩, hW, hsame.mono (by decide) (by decide)⟩
  · exact retOut X12 hx (t := (.object "java/lang/Object")) Bd.returns rfl (Or.inr (Or.inr (Or.inr (Or.inr ⟨rfl, rfl, rfl⟩)))) (hb hby d_jdk_38_method_20_code_14) hr
  · show Q_get2_0 Z q0 t0 k0 x0 x1 a_EMPTY_ELEMENTDATA a_DEFAULTCAPACITY_EMPTY_ELEMENTDATA a_cache a_TRUE a_MILLISECONDS a_MILLISECONDS_name a_FALSE cl_cache h0 n0 _ T12.heap _
    rw [hp12]
    exact ⟨rfl, N12, rfl⟩
theorem ef_ed2_1 (m : MethodId) (x0 : Addr) (x1 : Int32)  : entryFrame m #[(.ref x0), (.int x1)] 2 = mkF m 0 #[.val (.ref x0), .val (.int x1)] [] := by first | (simp [entryFrame, mkF, argsToLocals, Value.category]; done) | rfl
def Q_ed2_1 (Z : State) (q0 : Addr) (t0 : Addr) (k0 : ClassId) (x0 : Addr) (x1 : Addr) (a_EMPTY_ELEMENTDATA : Addr) (a_DEFAULTCAPACITY_EMPTY_ELEMENTDATA : Addr) (a_cache : Addr) (a_TRUE : Addr) (a_MILLISECONDS : Addr) (a_MILLISECONDS_name : Addr) (a_FALSE : Addr) (cl_cache : Cell) (h0 : Heap) (n0 : Nat) (v : Option Value) (h : Heap) (L : List Loc) : Prop := v = some (.ref x1) ∧ Fr n0 L ∧ h = h0
set_option maxRecDepth 65536 in
set_option maxHeartbeats 40000000 in
theorem rm_ed2_1 (l : Launch) (Z : State) (a0 : Array Value) (hw : ∀ d ∈ tables_1, d.before a0 Z = true) (ws : List Jvm.Cond) (q0 : Addr) (t0 : Addr) (k0 : ClassId) (x0 : Addr) (x1 : Addr) (a_EMPTY_ELEMENTDATA : Addr) (a_DEFAULTCAPACITY_EMPTY_ELEMENTDATA : Addr) (a_cache : Addr) (a_TRUE : Addr) (a_MILLISECONDS : Addr) (a_MILLISECONDS_name : Addr) (a_FALSE : Addr) (cl_cache : Cell) (h0 : Heap) (n0 : Nat) (O0 : Old Z n0 h0) (hE : EV Z a_EMPTY_ELEMENTDATA a_DEFAULTCAPACITY_EMPTY_ELEMENTDATA a_cache a_TRUE a_MILLISECONDS a_MILLISECONDS_name a_FALSE cl_cache) (P0 : Fld Z h0 q0 "java/util/ArrayList" "elementData" "[Ljava/lang/Object;" (.ref t0)) (P1 : Arv Z h0 t0 k0 (.object "java/lang/Object") (10 : Int32) [(.ref x0), (.ref x1), .null, .null, .null, .null, .null, .null, .null, .null] .null) :
    MetFree l own_m11 (head1 (Jvm.Cond.code own_m11 jdk_38_method_18_code 2 (some (.object "java/lang/Object")) :: ws) ({ frames := 0, cells := 0, slots := 0, locals := 0 } : Room)) (fun a U => a = #[(.ref q0), (.int (1 : Int32))] ∧ Z.Warmed39 U.vm ∧ U.heap = h0) (fun _ _ _ _ _ => True) (fun _ U o U' => ∃ v L, o = .returned v ∧ Q_ed2_1 Z q0 t0 k0 x0 x1 a_EMPTY_ELEMENTDATA a_DEFAULTCAPACITY_EMPTY_ELEMENTDATA a_cache a_TRUE a_MILLISECONDS a_MILLISECONDS_name a_FALSE cl_cache h0 n0 v U'.heap L ∧ FrameEnd U o U' L ({ frames := 0, cells := 0, slots := 0, locals := 0 } : Room).cells ({ frames := 0, cells := 0, slots := 0, locals := 0 } : Room).slots) := by
  refine MetFree.of_bodySF (plainFor_of_name pn_java_util_ArrayList) hisR ?_
  intro p e s m args below meth c s₁ Bd hml0 hP hK
  obtain ⟨rfl, hZ, hh⟩ := hP
  have hx := Bd.exec
  have hby := Bd.bytes
  have hml : c.maxLocals = 2 := hml0
  have hown : s.vm.findClass "java/util/ArrayList" = some m.cls := findClass_of_methodNamed Bd.named
  have hnm := (name_of_methodNamed Bd.named Bd.method).1
  have X00 : Stand p l e ({ frames := 0, cells := 0, slots := 0, locals := 0 } : Room) s m #[(.ref q0), (.int (1 : Int32))] below meth c s₁ [] 0 0 := Stand.of_body Bd
  have e00 : s₁.heap = h0 := by rw [← hh, Bd.state]; rfl
  have N00 := Fr.nil n0
  refine Classical.byContradiction fun hNG => ?_
  have K00 := Keep.refl h0 []
  have k00 : ∀ t, own_At p e below m s₁ 0 #[.val (.ref q0), .val (.int (1 : Int32))] [] t → own_En p e below m s₁ #[(.ref q0), (.int (1 : Int32))] 2 t := fun t k => castTop (ef_ed2_1 m q0 ((1 : Int32)) ) k
  obtain ⟨S_EMPTY_ELEMENTDATA, E_EMPTY_ELEMENTDATA, S_DEFAULTCAPACITY_EMPTY_ELEMENTDATA, E_DEFAULTCAPACITY_EMPTY_ELEMENTDATA, S_cache, E_cache, S_TRUE, E_TRUE, F_TRUE_value, S_MILLISECONDS, E_MILLISECONDS, F_MILLISECONDS_name, E_MILLISECONDS_name, F_MILLISECONDS_ordinal, F_MILLISECONDS_scale, F_MILLISECONDS_maxNanos, F_MILLISECONDS_microRatio, F_MILLISECONDS_maxMicros, F_MILLISECONDS_milliRatio, F_MILLISECONDS_maxMillis, F_MILLISECONDS_secRatio, F_MILLISECONDS_maxSecs, S_FALSE, E_FALSE, F_FALSE_value, C_EMPTY_ELEMENTDATA, C_DEFAULTCAPACITY_EMPTY_ELEMENTDATA, B_cache⟩ := (id hE : EV Z a_EMPTY_ELEMENTDATA a_DEFAULTCAPACITY_EMPTY_ELEMENTDATA a_cache a_TRUE a_MILLISECONDS a_MILLISECONDS_name a_FALSE cl_cache)
  obtain ⟨k_DEF, A_DEF⟩ := C_DEFAULTCAPACITY_EMPTY_ELEMENTDATA.arv
  obtain ⟨T10, X10, e10, st10⟩ := getF X00 hx hZ hown (host := "") (Or.inl (own_w hw 24 rfl)) Via.refl e00 P0 (g := (mkF m 1 #[.val (.ref q0), .val (.int (1 : Int32))] [(.ref q0)])) rfl rfl (hb hby d_jdk_38_method_18_code_1)
  obtain ⟨cl11, Ar11, q11, Sz11, Nn11, Hs11, Gf11⟩ := id P1
  have hin12 : ¬ ((1 : Int32) < 0 ∨ cl11.slots.size ≤ ((1 : Int32)).toNatClampNeg) := inb_of Sz11 ⟨by decide, by decide⟩
  have hat13 : cl11.slots[((1 : Int32)).toNatClampNeg]? = some (.ref x1) := Hs11.at hin12 rfl
  have k14 : ∀ t, own_At p e below m T10 6 #[.val (.ref q0), .val (.int (1 : Int32))] [(.ref x1)] t → own_En p e below m s₁ #[(.ref q0), (.int (1 : Int32))] 2 t := by
    intro t k
    refine k00 t ?_
    refine XS.aloadN X00.here hx rfl (hb hby d_jdk_38_method_18_code_0) rfl rfl ?_
    show own_At p e below m s₁ 1 #[.val (.ref q0), .val (.int (1 : Int32))] [(.ref q0)] t
    refine st10 _ ?_
    show own_At p e below m T10 4 #[.val (.ref q0), .val (.int (1 : Int32))] [(.ref t0)] t
    refine XS.iloadN X10.here hx rfl (hb hby d_jdk_38_method_18_code_4) rfl ?_
    show own_At p e below m T10 5 #[.val (.ref q0), .val (.int (1 : Int32))] [(.int (1 : Int32)), (.ref t0)] t
    refine X10.aaload hx (j := (1 : Int32)) (v := (.ref x1)) (by rw [e10]; exact Ar11.1) (State.isArrayOf_alike hZ.alike Ar11.2.1) rfl Ar11.2.2 hin12 hat13 (g := (mkF m 5 #[.val (.ref q0), .val (.int (1 : Int32))] [(.int (1 : Int32)), (.ref t0)])) rfl rfl (hb hby d_jdk_38_method_18_code_5) _ ?_
    show own_At p e below m T10 6 #[.val (.ref q0), .val (.int (1 : Int32))] [(.ref x1)] t
    exact k
  obtain ⟨fs, hr, hrun, hended, hW, hsame⟩ := X10.leave (v := some (.ref x1)) (fun h => by rw [Bd.returns] at h; cases h)
  refine hNG ⟨_, _, k14 _ ?_, hrun, hended, _, _, rfl, ?_, ⟨_, rfl⟩, hW, hsame.mono (by decide) (by decide)⟩
  · exact retOut X10 hx (t := (.object "java/lang/Object")) Bd.returns rfl (Or.inr (Or.inr (Or.inr (Or.inr ⟨rfl, rfl, rfl⟩)))) (hb hby d_jdk_38_method_18_code_6) hr
  · show Q_ed2_1 Z q0 t0 k0 x0 x1 a_EMPTY_ELEMENTDATA a_DEFAULTCAPACITY_EMPTY_ELEMENTDATA a_cache a_TRUE a_MILLISECONDS a_MILLISECONDS_name a_FALSE cl_cache h0 n0 _ T10.heap _
    rw [e10]
    exact ⟨rfl, N00, rfl⟩
theorem ef_get2_1 (m : MethodId) (x0 : Addr) (x1 : Int32)  : entryFrame m #[(.ref x0), (.int x1)] 2 = mkF m 0 #[.val (.ref x0), .val (.int x1)] [] := by first | (simp [entryFrame, mkF, argsToLocals, Value.category]; done) | rfl
theorem ef_f6 (m : MethodId) (x0 : Int32) (x1 : Int32)  : entryFrame m #[(.int x0), (.int x1)] 2 = mkF m 0 #[.val (.int x0), .val (.int x1)] [] := by first | (simp [entryFrame, mkF, argsToLocals, Value.category]; done) | rfl
theorem ef_f7 (m : MethodId) (x0 : Int32) (x1 : Int32)  : entryFrame m #[(.int x0), (.int x1), .null] 3 = mkF m 0 #[.val (.int x0), .val (.int x1), .val .null] [] := by first | (simp [entryFrame, mkF, argsToLocals, Value.category]; done) | rfl
def Q_f7 (Z : State) (a_EMPTY_ELEMENTDATA : Addr) (a_DEFAULTCAPACITY_EMPTY_ELEMENTDATA : Addr) (a_cache : Addr) (a_TRUE : Addr) (a_MILLISECONDS : Addr) (a_MILLISECONDS_name : Addr) (a_FALSE : Addr) (cl_cache : Cell) (h0 : Heap) (n0 : Nat) (v : Option Value) (h : Heap) (L : List Loc) : Prop := v = some (.int (1 : Int32)) ∧ Fr n0 L ∧ h = h0
set_option maxRecDepth 65536 in
set_option maxHeartbeats 40000000 in
theorem rm_f7 (l : Launch) (Z : State) (a0 : Array Value) (hw : ∀ d ∈ tables_1, d.before a0 Z = true) (ws : List Jvm.Cond) (a_EMPTY_ELEMENTDATA : Addr) (a_DEFAULTCAPACITY_EMPTY_ELEMENTDATA : Addr) (a_cache : Addr) (a_TRUE : Addr) (a_MILLISECONDS : Addr) (a_MILLISECONDS_name : Addr) (a_FALSE : Addr) (cl_cache : Cell) (h0 : Heap) (n0 : Nat) (O0 : Old Z n0 h0) (hE : EV Z a_EMPTY_ELEMENTDATA a_DEFAULTCAPACITY_EMPTY_ELEMENTDATA a_cache a_TRUE a_MILLISECONDS a_MILLISECONDS_name a_FALSE cl_cache) :
    MetFree l own_m12 (head1 (Jvm.Cond.code own_m12 jdk_41_method_11_code 3 (some .int) :: ws) ({ frames := 0, cells := 0, slots := 0, locals := 0 } : Room)) (fun a U => a = #[(.int (1 : Int32)), (.int (2 : Int32)), .null] ∧ Z.Warmed39 U.vm ∧ U.heap = h0) (fun _ _ _ _ _ => True) (fun _ U o U' => ∃ v L, o = .returned v ∧ Q_f7 Z a_EMPTY_ELEMENTDATA a_DEFAULTCAPACITY_EMPTY_ELEMENTDATA a_cache a_TRUE a_MILLISECONDS a_MILLISECONDS_name a_FALSE cl_cache h0 n0 v U'.heap L ∧ FrameEnd U o U' L ({ frames := 0, cells := 0, slots := 0, locals := 0 } : Room).cells ({ frames := 0, cells := 0, slots := 0, locals := 0 } : Room).slots) := by
  refine MetFree.of_bodySF (plainFor_of_name pn_jdk_internal_util_Preconditions) hisR ?_
  intro p e s m args below meth c s₁ Bd hml0 hP hK
  obtain ⟨rfl, hZ, hh⟩ := hP
  have hx := Bd.exec
  have hby := Bd.bytes
  have hml : c.maxLocals = 3 := hml0
  have hown : s.vm.findClass "jdk/internal/util/Preconditions" = some m.cls := findClass_of_methodNamed Bd.named
  have hnm := (name_of_methodNamed Bd.named Bd.method).1
  have X00 : Stand p l e ({ frames := 0, cells := 0, slots := 0, locals := 0 } : Room) s m #[(.int (1 : Int32)), (.int (2 : Int32)), .null] below meth c s₁ [] 0 0 := Stand.of_body Bd
  have e00 : s₁.heap = h0 := by rw [← hh, Bd.state]; rfl
  have N00 := Fr.nil n0
  refine Classical.byContradiction fun hNG => ?_
  have K00 := Keep.refl h0 []
  have k00 : ∀ t, own_At p e below m s₁ 0 #[.val (.int (1 : Int32)), .val (.int (2 : Int32)), .val .null] [] t → own_En p e below m s₁ #[(.int (1 : Int32)), (.int (2 : Int32)), .null] 3 t := fun t k => castTop (ef_f7 m ((1 : Int32)) ((2 : Int32)) ) k
  obtain ⟨S_EMPTY_ELEMENTDATA, E_EMPTY_ELEMENTDATA, S_DEFAULTCAPACITY_EMPTY_ELEMENTDATA, E_DEFAULTCAPACITY_EMPTY_ELEMENTDATA, S_cache, E_cache, S_TRUE, E_TRUE, F_TRUE_value, S_MILLISECONDS, E_MILLISECONDS, F_MILLISECONDS_name, E_MILLISECONDS_name, F_MILLISECONDS_ordinal, F_MILLISECONDS_scale, F_MILLISECONDS_maxNanos, F_MILLISECONDS_microRatio, F_MILLISECONDS_maxMicros, F_MILLISECONDS_milliRatio, F_MILLISECONDS_maxMillis, F_MILLISECONDS_secRatio, F_MILLISECONDS_maxSecs, S_FALSE, E_FALSE, F_FALSE_value, C_EMPTY_ELEMENTDATA, C_DEFAULTCAPACITY_EMPTY_ELEMENTDATA, B_cache⟩ := (id hE : EV Z a_EMPTY_ELEMENTDATA a_DEFAULTCAPACITY_EMPTY_ELEMENTDATA a_cache a_TRUE a_MILLISECONDS a_MILLISECONDS_name a_FALSE cl_cache)
  obtain ⟨k_DEF, A_DEF⟩ := C_DEFAULTCAPACITY_EMPTY_ELEMENTDATA.arv
  have k10 : ∀ t, own_At p e below m s₁ 17 #[.val (.int (1 : Int32)), .val (.int (2 : Int32)), .val .null] [(.int (1 : Int32))] t → own_En p e below m s₁ #[(.int (1 : Int32)), (.int (2 : Int32)), .null] 3 t := by
    intro t k
    refine k00 t ?_
    refine XS.iloadN X00.here hx rfl (hb hby d_jdk_41_method_11_code_0) rfl ?_
    show own_At p e below m s₁ 1 #[.val (.int (1 : Int32)), .val (.int (2 : Int32)), .val .null] [(.int (1 : Int32))] t
    refine XS.ifNo X00.here hx rfl (hb hby d_jdk_41_method_11_code_1) rfl ((if0 _ _).trans (flt (by decide : ¬ ((1 : Int32) < (0 : Int32)))).1) ?_
    show own_At p e below m s₁ 4 #[.val (.int (1 : Int32)), .val (.int (2 : Int32)), .val .null] [] t
    refine XS.iloadN X00.here hx rfl (hb hby d_jdk_41_method_11_code_4) rfl ?_
    show own_At p e below m s₁ 5 #[.val (.int (1 : Int32)), .val (.int (2 : Int32)), .val .null] [(.int (1 : Int32))] t
    refine XS.iloadN X00.here hx rfl (hb hby d_jdk_41_method_11_code_5) rfl ?_
    show own_At p e below m s₁ 6 #[.val (.int (1 : Int32)), .val (.int (2 : Int32)), .val .null] [(.int (2 : Int32)), (.int (1 : Int32))] t
    refine XS.icmpYes X00.here hx rfl (pc0 := 6) (pc' := 16) rfl (hb hby d_jdk_41_method_11_code_6) rfl (tlt (by decide : (1 : Int32) < (2 : Int32))).1 (by decide) (by decide) ?_
    show own_At p e below m s₁ 16 #[.val (.int (1 : Int32)), .val (.int (2 : Int32)), .val .null] [] t
    refine XS.iloadN X00.here hx rfl (hb hby d_jdk_41_method_11_code_16) rfl ?_
    show own_At p e below m s₁ 17 #[.val (.int (1 : Int32)), .val (.int (2 : Int32)), .val .null] [(.int (1 : Int32))] t
    exact k
  obtain ⟨fs, hr, hrun, hended, hW, hsame⟩ := X00.leave (v := some (.int (1 : Int32))) (fun h => by rw [Bd.returns] at h; cases h)
  refine hNG ⟨_, _, k10 _ ?_, hrun, hended, _, _, rfl, ?_, ⟨_, rfl⟩, hW, hsame.mono (by decide) (by decide)⟩
  · exact retOut X00 hx (t := .int) Bd.returns rfl (Or.inl ⟨rfl, Or.inl rfl, _, rfl⟩) (hb hby d_jdk_41_method_11_code_17) hr
  · show Q_f7 Z a_EMPTY_ELEMENTDATA a_DEFAULTCAPACITY_EMPTY_ELEMENTDATA a_cache a_TRUE a_MILLISECONDS a_MILLISECONDS_name a_FALSE cl_cache h0 n0 _ s₁.heap _
    rw [e00]
    exact ⟨rfl, N00, rfl⟩
def Q_f6 (Z : State) (a_EMPTY_ELEMENTDATA : Addr) (a_DEFAULTCAPACITY_EMPTY_ELEMENTDATA : Addr) (a_cache : Addr) (a_TRUE : Addr) (a_MILLISECONDS : Addr) (a_MILLISECONDS_name : Addr) (a_FALSE : Addr) (cl_cache : Cell) (h0 : Heap) (n0 : Nat) (v : Option Value) (h : Heap) (L : List Loc) : Prop := v = some (.int (1 : Int32)) ∧ Fr n0 L ∧ h = h0
set_option maxRecDepth 65536 in
set_option maxHeartbeats 40000000 in
theorem rm_f6 (l : Launch) (Z : State) (a0 : Array Value) (hw : ∀ d ∈ tables_1, d.before a0 Z = true) (ws : List Jvm.Cond) (a_EMPTY_ELEMENTDATA : Addr) (a_DEFAULTCAPACITY_EMPTY_ELEMENTDATA : Addr) (a_cache : Addr) (a_TRUE : Addr) (a_MILLISECONDS : Addr) (a_MILLISECONDS_name : Addr) (a_FALSE : Addr) (cl_cache : Cell) (h0 : Heap) (n0 : Nat) (O0 : Old Z n0 h0) (hE : EV Z a_EMPTY_ELEMENTDATA a_DEFAULTCAPACITY_EMPTY_ELEMENTDATA a_cache a_TRUE a_MILLISECONDS a_MILLISECONDS_name a_FALSE cl_cache) :
    MetFree l own_m13 (head1 (Jvm.Cond.code own_m13 jdk_31_method_17_code 2 (some .int) :: ws) ({ frames := 1, cells := 0, slots := 0, locals := 14 } : Room)) (fun a U => a = #[(.int (1 : Int32)), (.int (2 : Int32))] ∧ Z.Warmed39 U.vm ∧ U.heap = h0) (fun _ _ _ _ _ => True) (fun _ U o U' => ∃ v L, o = .returned v ∧ Q_f6 Z a_EMPTY_ELEMENTDATA a_DEFAULTCAPACITY_EMPTY_ELEMENTDATA a_cache a_TRUE a_MILLISECONDS a_MILLISECONDS_name a_FALSE cl_cache h0 n0 v U'.heap L ∧ FrameEnd U o U' L ({ frames := 1, cells := 0, slots := 0, locals := 14 } : Room).cells ({ frames := 1, cells := 0, slots := 0, locals := 14 } : Room).slots) := by
  refine MetFree.of_bodySF (plainFor_of_name pn_java_util_Objects) hisR ?_
  intro p e s m args below meth c s₁ Bd hml0 hP hK
  obtain ⟨rfl, hZ, hh⟩ := hP
  have hx := Bd.exec
  have hby := Bd.bytes
  have hml : c.maxLocals = 2 := hml0
  have hown : s.vm.findClass "java/util/Objects" = some m.cls := findClass_of_methodNamed Bd.named
  have hnm := (name_of_methodNamed Bd.named Bd.method).1
  have X00 : Stand p l e ({ frames := 1, cells := 0, slots := 0, locals := 14 } : Room) s m #[(.int (1 : Int32)), (.int (2 : Int32))] below meth c s₁ [] 0 0 := Stand.of_body Bd
  have e00 : s₁.heap = h0 := by rw [← hh, Bd.state]; rfl
  have N00 := Fr.nil n0
  refine Classical.byContradiction fun hNG => ?_
  have K00 := Keep.refl h0 []
  have k00 : ∀ t, own_At p e below m s₁ 0 #[.val (.int (1 : Int32)), .val (.int (2 : Int32))] [] t → own_En p e below m s₁ #[(.int (1 : Int32)), (.int (2 : Int32))] 2 t := fun t k => castTop (ef_f6 m ((1 : Int32)) ((2 : Int32)) ) k
  obtain ⟨S_EMPTY_ELEMENTDATA, E_EMPTY_ELEMENTDATA, S_DEFAULTCAPACITY_EMPTY_ELEMENTDATA, E_DEFAULTCAPACITY_EMPTY_ELEMENTDATA, S_cache, E_cache, S_TRUE, E_TRUE, F_TRUE_value, S_MILLISECONDS, E_MILLISECONDS, F_MILLISECONDS_name, E_MILLISECONDS_name, F_MILLISECONDS_ordinal, F_MILLISECONDS_scale, F_MILLISECONDS_maxNanos, F_MILLISECONDS_microRatio, F_MILLISECONDS_maxMicros, F_MILLISECONDS_milliRatio, F_MILLISECONDS_maxMillis, F_MILLISECONDS_secRatio, F_MILLISECONDS_maxSecs, S_FALSE, E_FALSE, F_FALSE_value, C_EMPTY_ELEMENTDATA, C_DEFAULTCAPACITY_EMPTY_ELEMENTDATA, B_cache⟩ := (id hE : EV Z a_EMPTY_ELEMENTDATA a_DEFAULTCAPACITY_EMPTY_ELEMENTDATA a_cache a_TRUE a_MILLISECONDS a_MILLISECONDS_name a_FALSE cl_cache)
  obtain ⟨k_DEF, A_DEF⟩ := C_DEFAULTCAPACITY_EMPTY_ELEMENTDATA.arv
  obtain ⟨_, _, ⟨T10, L10, k10, n10⟩, -, X10, ⟨Lc10, hQ10, l10, y10, z10⟩, st10⟩ := Jvm.LawKit.callS X00 hx (y := own_m12) hown (mvT hZ (own_w hw 85 rfl)) (mvT hZ (own_w hw 86 rfl)) (mvT hZ (own_w hw 87 rfl)) (mvT hZ (own_w hw 88 rfl)) (by decide) (backOf (W := 0) (rm_f7 l Z a0 hw []  _ _ _ _ _ _ _ _ h0 n0 O0 hE) hZ (own_w hw 88 rfl) (own_w hw 87 rfl) (by decide) (by decide)) (g := (mkF m 3 #[.val (.int (1 : Int32)), .val (.int (2 : Int32))] [.null, (.int (2 : Int32)), (.int (1 : Int32))])) rfl (by rw [hml]; rfl) (argsL := [(.int (1 : Int32)), (.int (2 : Int32)), .null]) (rest := []) (lenOf pd__IILjava_util_function_BiFunction__I rfl) rfl (by show 2 * 0 + _ ≤ _; exact Nat.le_of_eq rfl) (hb hby d_jdk_31_method_17_code_3) (fun _ _ => ⟨rfl, e00, (by decide : 0 + 0 ≤ _), (by decide : 0 + 0 ≤ _)⟩)
  dsimp only [Pt.U, Pt.locs, Pt.cells, Pt.slots] at X10 l10 y10 z10 st10 hQ10
  subst l10 y10 z10
  obtain ⟨rfl, N10q, hp10⟩ := hQ10
  have N10 := Fr.app N00 N10q
  have k11 : ∀ t, own_At p e below m T10 6 #[.val (.int (1 : Int32)), .val (.int (2 : Int32))] [(.int (1 : Int32))] t → own_En p e below m s₁ #[(.int (1 : Int32)), (.int (2 : Int32))] 2 t := by
    intro t k
    refine k00 t ?_
    refine XS.iloadN X00.here hx rfl (hb hby d_jdk_31_method_17_code_0) rfl ?_
    show own_At p e below m s₁ 1 #[.val (.int (1 : Int32)), .val (.int (2 : Int32))] [(.int (1 : Int32))] t
    refine XS.iloadN X00.here hx rfl (hb hby d_jdk_31_method_17_code_1) rfl ?_
    show own_At p e below m s₁ 2 #[.val (.int (1 : Int32)), .val (.int (2 : Int32))] [(.int (2 : Int32)), (.int (1 : Int32))] t
    refine XS.aconstNull X00.here hx rfl (hb hby d_jdk_31_method_17_code_2) ?_
    show own_At p e below m s₁ 3 #[.val (.int (1 : Int32)), .val (.int (2 : Int32))] [.null, (.int (2 : Int32)), (.int (1 : Int32))] t
    refine st10 _ ?_
    show own_At p e below m T10 6 #[.val (.int (1 : Int32)), .val (.int (2 : Int32))] [(.int (1 : Int32))] t
    exact k
  obtain ⟨fs, hr, hrun, hended, hW, hsame⟩ := X10.leave (v := some (.int (1 : Int32))) (fun h => by rw [Bd.returns] at h; cases h)
  refine hNG ⟨_, _, k11 _ ?_, hrun, hended, _, _, rfl, ?_, ⟨_, rfl⟩, hW, hsame.mono (by decide) (by decide)⟩
  · exact retOut X10 hx (t := .int) Bd.returns rfl (Or.inl ⟨rfl, Or.inl rfl, _, rfl⟩) (hb hby d_jdk_31_method_17_code_6) hr
  · show Q_f6 Z a_EMPTY_ELEMENTDATA a_DEFAULTCAPACITY_EMPTY_ELEMENTDATA a_cache a_TRUE a_MILLISECONDS a_MILLISECONDS_name a_FALSE cl_cache h0 n0 _ T10.heap _
    rw [hp10]
    exact ⟨rfl, N10, rfl⟩
def Q_get2_1 (Z : State) (q0 : Addr) (t0 : Addr) (k0 : ClassId) (x0 : Addr) (x1 : Addr) (a_EMPTY_ELEMENTDATA : Addr) (a_DEFAULTCAPACITY_EMPTY_ELEMENTDATA : Addr) (a_cache : Addr) (a_TRUE : Addr) (a_MILLISECONDS : Addr) (a_MILLISECONDS_name : Addr) (a_FALSE : Addr) (cl_cache : Cell) (h0 : Heap) (n0 : Nat) (v : Option Value) (h : Heap) (L : List Loc) : Prop := v = some (.ref x1) ∧ Fr n0 L ∧ h = h0
set_option maxRecDepth 65536 in
set_option maxHeartbeats 40000000 in
theorem rm_get2_1 (l : Launch) (Z : State) (a0 : Array Value) (hw : ∀ d ∈ tables_1, d.before a0 Z = true) (ws : List Jvm.Cond) (q0 : Addr) (t0 : Addr) (k0 : ClassId) (x0 : Addr) (x1 : Addr) (a_EMPTY_ELEMENTDATA : Addr) (a_DEFAULTCAPACITY_EMPTY_ELEMENTDATA : Addr) (a_cache : Addr) (a_TRUE : Addr) (a_MILLISECONDS : Addr) (a_MILLISECONDS_name : Addr) (a_FALSE : Addr) (cl_cache : Cell) (h0 : Heap) (n0 : Nat) (O0 : Old Z n0 h0) (hE : EV Z a_EMPTY_ELEMENTDATA a_DEFAULTCAPACITY_EMPTY_ELEMENTDATA a_cache a_TRUE a_MILLISECONDS a_MILLISECONDS_name a_FALSE cl_cache) (P0 : Fld Z h0 q0 "java/util/ArrayList" "elementData" "[Ljava/lang/Object;" (.ref t0)) (P1 : Arv Z h0 t0 k0 (.object "java/lang/Object") (10 : Int32) [(.ref x0), (.ref x1), .null, .null, .null, .null, .null, .null, .null, .null] .null) (P2 : Fld Z h0 q0 "java/util/ArrayList" "size" "I" (.int (2 : Int32))) (P3 : Exa Z h0 q0 "java/util/ArrayList") :
    MetFree l own_m14 (head1 (Jvm.Cond.code own_m14 jdk_38_method_20_code 2 (some (.object "java/lang/Object")) :: ws) ({ frames := 2, cells := 0, slots := 0, locals := 27 } : Room)) (fun a U => a = #[(.ref q0), (.int (1 : Int32))] ∧ Z.Warmed39 U.vm ∧ U.heap = h0) (fun _ _ _ _ _ => True) (fun _ U o U' => ∃ v L, o = .returned v ∧ Q_get2_1 Z q0 t0 k0 x0 x1 a_EMPTY_ELEMENTDATA a_DEFAULTCAPACITY_EMPTY_ELEMENTDATA a_cache a_TRUE a_MILLISECONDS a_MILLISECONDS_name a_FALSE cl_cache h0 n0 v U'.heap L ∧ FrameEnd U o U' L ({ frames := 2, cells := 0, slots := 0, locals := 27 } : Room).cells ({ frames := 2, cells := 0, slots := 0, locals := 27 } : Room).slots) := by
  refine MetFree.of_bodySF (plainFor_of_name pn_java_util_ArrayList) hisR ?_
  intro p e s m args below meth c s₁ Bd hml0 hP hK
  obtain ⟨rfl, hZ, hh⟩ := hP
  have hx := Bd.exec
  have hby := Bd.bytes
  have hml : c.maxLocals = 2 := hml0
  have hown : s.vm.findClass "java/util/ArrayList" = some m.cls := findClass_of_methodNamed Bd.named
  have hnm := (name_of_methodNamed Bd.named Bd.method).1
  have X00 : Stand p l e ({ frames := 2, cells := 0, slots := 0, locals := 27 } : Room) s m #[(.ref q0), (.int (1 : Int32))] below meth c s₁ [] 0 0 := Stand.of_body Bd
  have e00 : s₁.heap = h0 := by rw [← hh, Bd.state]; rfl
  have N00 := Fr.nil n0
  refine Classical.byContradiction fun hNG => ?_
  have K00 := Keep.refl h0 []
  have k00 : ∀ t, own_At p e below m s₁ 0 #[.val (.ref q0), .val (.int (1 : Int32))] [] t → own_En p e below m s₁ #[(.ref q0), (.int (1 : Int32))] 2 t := fun t k => castTop (ef_get2_1 m q0 ((1 : Int32)) ) k
  obtain ⟨S_EMPTY_ELEMENTDATA, E_EMPTY_ELEMENTDATA, S_DEFAULTCAPACITY_EMPTY_ELEMENTDATA, E_DEFAULTCAPACITY_EMPTY_ELEMENTDATA, S_cache, E_cache, S_TRUE, E_TRUE, F_TRUE_value, S_MILLISECONDS, E_MILLISECONDS, F_MILLISECONDS_name, E_MILLISECONDS_name, F_MILLISECONDS_ordinal, F_MILLISECONDS_scale, F_MILLISECONDS_maxNanos, F_MILLISECONDS_microRatio, F_MILLISECONDS_maxMicros, F_MILLISECONDS_milliRatio, F_MILLISECONDS_maxMillis, F_MILLISECONDS_secRatio, F_MILLISECONDS_maxSecs, S_FALSE, E_FALSE, F_FALSE_value, C_EMPTY_ELEMENTDATA, C_DEFAULTCAPACITY_EMPTY_ELEMENTDATA, B_cache⟩ := (id hE : EV Z a_EMPTY_ELEMENTDATA a_DEFAULTCAPACITY_EMPTY_ELEMENTDATA a_cache a_TRUE a_MILLISECONDS a_MILLISECONDS_name a_FALSE cl_cache)
  obtain ⟨k_DEF, A_DEF⟩ := C_DEFAULTCAPACITY_EMPTY_ELEMENTDATA.arv
  obtain ⟨T10, X10, e10, st10⟩ := getF X00 hx hZ hown (host := "") (Or.inl (own_w hw 45 rfl)) Via.refl e00 P2 (g := (mkF m 2 #[.val (.ref q0), .val (.int (1 : Int32))] [(.ref q0), (.int (1 : Int32))])) rfl rfl (hb hby d_jdk_38_method_20_code_2)
  obtain ⟨_, _, ⟨T11, L11, k11, n11⟩, -, X11, ⟨Lc11, hQ11, l11, y11, z11⟩, st11⟩ := Jvm.LawKit.callS X10 hx (y := own_m13) hown (mvT hZ (own_w hw 81 rfl)) (mvT hZ (own_w hw 82 rfl)) (mvT hZ (own_w hw 83 rfl)) (mvT hZ (own_w hw 84 rfl)) (by decide) (backOf (W := 0) (rm_f6 l Z a0 hw []  _ _ _ _ _ _ _ _ h0 n0 O0 hE) hZ (own_w hw 84 rfl) (own_w hw 83 rfl) (by decide) (by decide)) (g := (mkF m 5 #[.val (.ref q0), .val (.int (1 : Int32))] [(.int (2 : Int32)), (.int (1 : Int32))])) rfl (by rw [hml]; rfl) (argsL := [(.int (1 : Int32)), (.int (2 : Int32))]) (rest := []) (lenOf pd__II_I rfl) rfl (by show 2 * 0 + _ ≤ _; exact Nat.le_of_eq rfl) (hb hby d_jdk_38_method_20_code_5) (fun _ _ => ⟨rfl, e10, (by decide : 0 + 0 ≤ _), (by decide : 0 + 0 ≤ _)⟩)
  dsimp only [Pt.U, Pt.locs, Pt.cells, Pt.slots] at X11 l11 y11 z11 st11 hQ11
  subst l11 y11 z11
  obtain ⟨rfl, N11q, hp11⟩ := hQ11
  have N11 := Fr.app N00 N11q
  obtain ⟨cq12, kq12, q12a, q12b, q12c⟩ := isOf hZ hp11 P3
  obtain ⟨_, _, ⟨T12, L12, k12, n12⟩, -, X12, ⟨Lc12, hQ12, l12, y12, z12⟩, st12⟩ := X11.virtualBack hx (y := own_m11) (z := own_m11) hown (mvT hZ (own_w hw 89 rfl)) (mvT hZ (own_w hw 90 rfl)) (notFace_of_selects (args := #[]) (mvT hZ (own_w hw 92 rfl))) (mvT hZ (own_w hw 92 rfl)) (mvT hZ (own_w hw 91 rfl)) (by decide) (backOf (W := 0) (rm_ed2_1 l Z a0 hw [] q0 t0 k0 x0 x1 _ _ _ _ _ _ _ _ h0 n0 O0 hE P0 P1 ) hZ (own_w hw 93 rfl) (own_w hw 2 rfl) (by decide) (by decide)) q12a q12c (g := (mkF m 11 #[.val (.ref q0), .val (.int (1 : Int32))] [(.int (1 : Int32)), (.ref q0)])) rfl (by rw [hml]; rfl) (Steps.refl _) (argsL := [(.int (1 : Int32))]) (rest := []) (lenOf pd__I_Ljava_lang_Object_ rfl) rfl (by show 2 * 0 + _ ≤ _; exact Nat.le_of_eq rfl) (hb hby d_jdk_38_method_20_code_11) (fun _ _ => ⟨rfl, hp11, (by decide : 0 + 0 ≤ _), (by decide : 0 + 0 ≤ _)⟩)
  dsimp only [Pt.U, Pt.locs, Pt.cells, Pt.slots] at X12 l12 y12 z12 st12 hQ12
  subst l12 y12 z12
  obtain ⟨rfl, N12q, hp12⟩ := hQ12
  have N12 := Fr.app N11 N12q
  have k13 : ∀ t, own_At p e below m T12 14 #[.val (.ref q0), .val (.int (1 : Int32))] [(.ref x1)] t → own_En p e below m s₁ #[(.ref q0), (.int (1 : Int32))] 2 t := by
    intro t k
    refine k00 t ?_
    refine XS.iloadN X00.here hx rfl (hb hby d_jdk_38_method_20_code_0) rfl ?_
    show own_At p e below m s₁ 1 #[.val (.ref q0), .val (.int (1 : Int32))] [(.int (1 : Int32))] t
    refine XS.aloadN X00.here hx rfl (hb hby d_jdk_38_method_20_code_1) rfl rfl ?_
    show own_At p e below m s₁ 2 #[.val (.ref q0), .val (.int (1 : Int32))] [(.ref q0), (.int (1 : Int32))] t
    refine st10 _ ?_
    show own_At p e below m T10 5 #[.val (.ref q0), .val (.int (1 : Int32))] [(.int (2 : Int32)), (.int (1 : Int32))] t
    refine st11 _ ?_
    show own_At p e below m T11 8 #[.val (.ref q0), .val (.int (1 : Int32))] [(.int (1 : Int32))] t
    refine XS.pop X11.here hx rfl (hb hby d_jdk_38_method_20_code_8) rfl rfl ?_
    show own_At p e below m T11 9 #[.val (.ref q0), .val (.int (1 : Int32))] [] t
    refine XS.aloadN X11.here hx rfl (hb hby d_jdk_38_method_20_code_9) rfl rfl ?_
    show own_At p e below m T11 10 #[.val (.ref q0), .val (.int (1 : Int32))] [(.ref q0)] t
    refine XS.iloadN X11.here hx rfl (hb hby d_jdk_38_method_20_code_10) rfl ?_
    show own_At p e below m T11 11 #[.val (.ref q0), .val (.int (1 : Int32))] [(.int (1 : Int32)), (.ref q0)] t
    refine st12.trans ?_
    show own_At p e below m T12 14 #[.val (.ref q0), .val (.int (1 : Int32))] [(.ref x1)] t
    exact k
  obtain ⟨fs, hr, hrun, hended, hW, hsame⟩ := X12.leave (v := some (.ref x1)) (fun h => by rw [Bd.returns] at h; cases h)
  refine hNG ⟨_, _, k13 _ ?_, hrun, hended, _, _, rfl, ?_, ⟨_, rfl⟩, hW, hsame.mono (by decide) (by decide)⟩
  · exact retOut X12 hx (t := (.object "java/lang/Object")) Bd.returns rfl (Or.inr (Or.inr (Or.inr (Or.inr ⟨rfl, rfl, rfl⟩)))) (hb hby d_jdk_38_method_20_code_14) hr
  · show Q_get2_1 Z q0 t0 k0 x0 x1 a_EMPTY_ELEMENTDATA a_DEFAULTCAPACITY_EMPTY_ELEMENTDATA a_cache a_TRUE a_MILLISECONDS a_MILLISECONDS_name a_FALSE cl_cache h0 n0 _ T12.heap _
    rw [hp12]
    exact ⟨rfl, N12, rfl⟩
theorem ef_ed3_0 (m : MethodId) (x0 : Addr) (x1 : Int32)  : entryFrame m #[(.ref x0), (.int x1)] 2 = mkF m 0 #[.val (.ref x0), .val (.int x1)] [] := by first | (simp [entryFrame, mkF, argsToLocals, Value.category]; done) | rfl
def Q_ed3_0 (Z : State) (q0 : Addr) (t0 : Addr) (k0 : ClassId) (x0 : Addr) (x1 : Addr) (x2 : Addr) (a_EMPTY_ELEMENTDATA : Addr) (a_DEFAULTCAPACITY_EMPTY_ELEMENTDATA : Addr) (a_cache : Addr) (a_TRUE : Addr) (a_MILLISECONDS : Addr) (a_MILLISECONDS_name : Addr) (a_FALSE : Addr) (cl_cache : Cell) (h0 : Heap) (n0 : Nat) (v : Option Value) (h : Heap) (L : List Loc) : Prop := v = some (.ref x0) ∧ Fr n0 L ∧ h = h0
set_option maxRecDepth 65536 in
set_option maxHeartbeats 40000000 in
theorem rm_ed3_0 (l : Launch) (Z : State) (a0 : Array Value) (hw : ∀ d ∈ tables_1, d.before a0 Z = true) (ws : List Jvm.Cond) (q0 : Addr) (t0 : Addr) (k0 : ClassId) (x0 : Addr) (x1 : Addr) (x2 : Addr) (a_EMPTY_ELEMENTDATA : Addr) (a_DEFAULTCAPACITY_EMPTY_ELEMENTDATA : Addr) (a_cache : Addr) (a_TRUE : Addr) (a_MILLISECONDS : Addr) (a_MILLISECONDS_name : Addr) (a_FALSE : Addr) (cl_cache : Cell) (h0 : Heap) (n0 : Nat) (O0 : Old Z n0 h0) (hE : EV Z a_EMPTY_ELEMENTDATA a_DEFAULTCAPACITY_EMPTY_ELEMENTDATA a_cache a_TRUE a_MILLISECONDS a_MILLISECONDS_name a_FALSE cl_cache) (P0 : Fld Z h0 q0 "java/util/ArrayList" "elementData" "[Ljava/lang/Object;" (.ref t0)) (P1 : Arv Z h0 t0 k0 (.object "java/lang/Object") (10 : Int32) [(.ref x0), (.ref x1), (.ref x2), .null, .null, .null, .null, .null, .null, .null] .null) :
    MetFree l own_m11 (head1 (Jvm.Cond.code own_m11 jdk_38_method_18_code 2 (some (.object "java/lang/Object")) :: ws) ({ frames := 0, cells := 0, slots := 0, locals := 0 } : Room)) (fun a U => a = #[(.ref q0), (.int (0 : Int32))] ∧ Z.Warmed39 U.vm ∧ U.heap = h0) (fun _ _ _ _ _ => True) (fun _ U o U' => ∃ v L, o = .returned v ∧ Q_ed3_0 Z q0 t0 k0 x0 x1 x2 a_EMPTY_ELEMENTDATA a_DEFAULTCAPACITY_EMPTY_ELEMENTDATA a_cache a_TRUE a_MILLISECONDS a_MILLISECONDS_name a_FALSE cl_cache h0 n0 v U'.heap L ∧ FrameEnd U o U' L ({ frames := 0, cells := 0, slots := 0, locals := 0 } : Room).cells ({ frames := 0, cells := 0, slots := 0, locals := 0 } : Room).slots) := by
  refine MetFree.of_bodySF (plainFor_of_name pn_java_util_ArrayList) hisR ?_
  intro p e s m args below meth c s₁ Bd hml0 hP hK
  obtain ⟨rfl, hZ, hh⟩ := hP
  have hx := Bd.exec
  have hby := Bd.bytes
  have hml : c.maxLocals = 2 := hml0
  have hown : s.vm.findClass "java/util/ArrayList" = some m.cls := findClass_of_methodNamed Bd.named
  have hnm := (name_of_methodNamed Bd.named Bd.method).1
  have X00 : Stand p l e ({ frames := 0, cells := 0, slots := 0, locals := 0 } : Room) s m #[(.ref q0), (.int (0 : Int32))] below meth c s₁ [] 0 0 := Stand.of_body Bd
  have e00 : s₁.heap = h0 := by rw [← hh, Bd.state]; rfl
  have N00 := Fr.nil n0
  refine Classical.byContradiction fun hNG => ?_
  have K00 := Keep.refl h0 []
  have k00 : ∀ t, own_At p e below m s₁ 0 #[.val (.ref q0), .val (.int (0 : Int32))] [] t → own_En p e below m s₁ #[(.ref q0), (.int (0 : Int32))] 2 t := fun t k => castTop (ef_ed3_0 m q0 ((0 : Int32)) ) k
  obtain ⟨S_EMPTY_ELEMENTDATA, E_EMPTY_ELEMENTDATA, S_DEFAULTCAPACITY_EMPTY_ELEMENTDATA, E_DEFAULTCAPACITY_EMPTY_ELEMENTDATA, S_cache, E_cache, S_TRUE, E_TRUE, F_TRUE_value, S_MILLISECONDS, E_MILLISECONDS, F_MILLISECONDS_name, E_MILLISECONDS_name, F_MILLISECONDS_ordinal, F_MILLISECONDS_scale, F_MILLISECONDS_maxNanos, F_MILLISECONDS_microRatio, F_MILLISECONDS_maxMicros, F_MILLISECONDS_milliRatio, F_MILLISECONDS_maxMillis, F_MILLISECONDS_secRatio, F_MILLISECONDS_maxSecs, S_FALSE, E_FALSE, F_FALSE_value, C_EMPTY_ELEMENTDATA, C_DEFAULTCAPACITY_EMPTY_ELEMENTDATA, B_cache⟩ := (id hE : EV Z a_EMPTY_ELEMENTDATA a_DEFAULTCAPACITY_EMPTY_ELEMENTDATA a_cache a_TRUE a_MILLISECONDS a_MILLISECONDS_name a_FALSE cl_cache)
  obtain ⟨k_DEF, A_DEF⟩ := C_DEFAULTCAPACITY_EMPTY_ELEMENTDATA.arv
  obtain ⟨T10, X10, e10, st10⟩ := getF X00 hx hZ hown (host := "") (Or.inl (own_w hw 24 rfl)) Via.refl e00 P0 (g := (mkF m 1 #[.val (.ref q0), .val (.int (0 : Int32))] [(.ref q0)])) rfl rfl (hb hby d_jdk_38_method_18_code_1)
  obtain ⟨cl11, Ar11, q11, Sz11, Nn11, Hs11, Gf11⟩ := id P1
  have hin12 : ¬ ((0 : Int32) < 0 ∨ cl11.slots.size ≤ ((0 : Int32)).toNatClampNeg) := inb_of Sz11 ⟨by decide, by decide⟩
  have hat13 : cl11.slots[((0 : Int32)).toNatClampNeg]? = some (.ref x0) := Hs11.at hin12 rfl
  have k14 : ∀ t, own_At p e below m T10 6 #[.val (.ref q0), .val (.int (0 : Int32))] [(.ref x0)] t → own_En p e below m s₁ #[(.ref q0), (.int (0 : Int32))] 2 t := by
    intro t k
    refine k00 t ?_
    refine XS.aloadN X00.here hx rfl (hb hby d_jdk_38_method_18_code_0) rfl rfl ?_
    show own_At p e below m s₁ 1 #[.val (.ref q0), .val (.int (0 : Int32))] [(.ref q0)] t
    refine st10 _ ?_
    show own_At p e below m T10 4 #[.val (.ref q0), .val (.int (0 : Int32))] [(.ref t0)] t
    refine XS.iloadN X10.here hx rfl (hb hby d_jdk_38_method_18_code_4) rfl ?_
    show own_At p e below m T10 5 #[.val (.ref q0), .val (.int (0 : Int32))] [(.int (0 : Int32)), (.ref t0)] t
    refine X10.aaload hx (j := (0 : Int32)) (v := (.ref x0)) (by rw [e10]; exact Ar11.1) (State.isArrayOf_alike hZ.alike Ar11.2.1) rfl Ar11.2.2 hin12 hat13 (g := (mkF m 5 #[.val (.ref q0), .val (.int (0 : Int32))] [(.int (0 : Int32)), (.ref t0)])) rfl rfl (hb hby d_jdk_38_method_18_code_5) _ ?_
    show own_At p e below m T10 6 #[.val (.ref q0), .val (.int (0 : Int32))] [(.ref x0)] t
    exact k
  obtain ⟨fs, hr, hrun, hended, hW, hsame⟩ := X10.leave (v := some (.ref x0)) (fun h => by rw [Bd.returns] at h; cases h)
  refine hNG ⟨_, _, k14 _ ?_, hrun, hended, _, _, rfl, ?_, ⟨_, rfl⟩, hW, hsame.mono (by decide) (by decide)⟩
  · exact retOut X10 hx (t := (.object "java/lang/Object")) Bd.returns rfl (Or.inr (Or.inr (Or.inr (Or.inr ⟨rfl, rfl, rfl⟩)))) (hb hby d_jdk_38_method_18_code_6) hr
  · show Q_ed3_0 Z q0 t0 k0 x0 x1 x2 a_EMPTY_ELEMENTDATA a_DEFAULTCAPACITY_EMPTY_ELEMENTDATA a_cache a_TRUE a_MILLISECONDS a_MILLISECONDS_name a_FALSE cl_cache h0 n0 _ T10.heap _
    rw [e10]
    exact ⟨rfl, N00, rfl⟩
theorem ef_get3_0 (m : MethodId) (x0 : Addr) (x1 : Int32)  : entryFrame m #[(.ref x0), (.int x1)] 2 = mkF m 0 #[.val (.ref x0), .val (.int x1)] [] := by first | (simp [entryFrame, mkF, argsToLocals, Value.category]; done) | rfl
theorem ef_f8 (m : MethodId) (x0 : Int32) (x1 : Int32)  : entryFrame m #[(.int x0), (.int x1)] 2 = mkF m 0 #[.val (.int x0), .val (.int x1)] [] := by first | (simp [entryFrame, mkF, argsToLocals, Value.category]; done) | rfl
theorem ef_f9 (m : MethodId) (x0 : Int32) (x1 : Int32)  : entryFrame m #[(.int x0), (.int x1), .null] 3 = mkF m 0 #[.val (.int x0), .val (.int x1), .val .null] [] := by first | (simp [entryFrame, mkF, argsToLocals, Value.category]; done) | rfl
def Q_f9 (Z : State) (a_EMPTY_ELEMENTDATA : Addr) (a_DEFAULTCAPACITY_EMPTY_ELEMENTDATA : Addr) (a_cache : Addr) (a_TRUE : Addr) (a_MILLISECONDS : Addr) (a_MILLISECONDS_name : Addr) (a_FALSE : Addr) (cl_cache : Cell) (h0 : Heap) (n0 : Nat) (v : Option Value) (h : Heap) (L : List Loc) : Prop := v = some (.int (0 : Int32)) ∧ Fr n0 L ∧ h = h0
set_option maxRecDepth 65536 in
set_option maxHeartbeats 40000000 in
theorem rm_f9 (l : Launch) (Z : State) (a0 : Array Value) (hw : ∀ d ∈ tables_1, d.before a0 Z = true) (ws : List Jvm.Cond) (a_EMPTY_ELEMENTDATA : Addr) (a_DEFAULTCAPACITY_EMPTY_ELEMENTDATA : Addr) (a_cache : Addr) (a_TRUE : Addr) (a_MILLISECONDS : Addr) (a_MILLISECONDS_name : Addr) (a_FALSE : Addr) (cl_cache : Cell) (h0 : Heap) (n0 : Nat) (O0 : Old Z n0 h0) (hE : EV Z a_EMPTY_ELEMENTDATA a_DEFAULTCAPACITY_EMPTY_ELEMENTDATA a_cache a_TRUE a_MILLISECONDS a_MILLISECONDS_name a_FALSE cl_cache) :
    MetFree l own_m12 (head1 (Jvm.Cond.code own_m12 jdk_41_method_11_code 3 (some .int) :: ws) ({ frames := 0, cells := 0, slots := 0, locals := 0 } : Room)) (fun a U => a = #[(.int (0 : Int32)), (.int (3 : Int32)), .null] ∧ Z.Warmed39 U.vm ∧ U.heap = h0) (fun _ _ _ _ _ => True) (fun _ U o U' => ∃ v L, o = .returned v ∧ Q_f9 Z a_EMPTY_ELEMENTDATA a_DEFAULTCAPACITY_EMPTY_ELEMENTDATA a_cache a_TRUE a_MILLISECONDS a_MILLISECONDS_name a_FALSE cl_cache h0 n0 v U'.heap L ∧ FrameEnd U o U' L ({ frames := 0, cells := 0, slots := 0, locals := 0 } : Room).cells ({ frames := 0, cells := 0, slots := 0, locals := 0 } : Room).slots) := by
  refine MetFree.of_bodySF (plainFor_of_name pn_jdk_internal_util_Preconditions) hisR ?_
  intro p e s m args below meth c s₁ Bd hml0 hP hK
  obtain ⟨rfl, hZ, hh⟩ := hP
  have hx := Bd.exec
  have hby := Bd.bytes
  have hml : c.maxLocals = 3 := hml0
  have hown : s.vm.findClass "jdk/internal/util/Preconditions" = some m.cls := findClass_of_methodNamed Bd.named
  have hnm := (name_of_methodNamed Bd.named Bd.method).1
  have X00 : Stand p l e ({ frames := 0, cells := 0, slots := 0, locals := 0 } : Room) s m #[(.int (0 : Int32)), (.int (3 : Int32)), .null] below meth c s₁ [] 0 0 := Stand.of_body Bd
  have e00 : s₁.heap = h0 := by rw [← hh, Bd.state]; rfl
  have N00 := Fr.nil n0
  refine Classical.byContradiction fun hNG => ?_
  have K00 := Keep.refl h0 []
  have k00 : ∀ t, own_At p e below m s₁ 0 #[.val (.int (0 : Int32)), .val (.int (3 : Int32)), .val .null] [] t → own_En p e below m s₁ #[(.int (0 : Int32)), (.int (3 : Int32)), .null] 3 t := fun t k => castTop (ef_f9 m ((0 : Int32)) ((3 : Int32)) ) k
  obtain ⟨S_EMPTY_ELEMENTDATA, E_EMPTY_ELEMENTDATA, S_DEFAULTCAPACITY_EMPTY_ELEMENTDATA, E_DEFAULTCAPACITY_EMPTY_ELEMENTDATA, S_cache, E_cache, S_TRUE, E_TRUE, F_TRUE_value, S_MILLISECONDS, E_MILLISECONDS, F_MILLISECONDS_name, E_MILLISECONDS_name, F_MILLISECONDS_ordinal, F_MILLISECONDS_scale, F_MILLISECONDS_maxNanos, F_MILLISECONDS_microRatio, F_MILLISECONDS_maxMicros, F_MILLISECONDS_milliRatio, F_MILLISECONDS_maxMillis, F_MILLISECONDS_secRatio, F_MILLISECONDS_maxSecs, S_FALSE, E_FALSE, F_FALSE_value, C_EMPTY_ELEMENTDATA, C_DEFAULTCAPACITY_EMPTY_ELEMENTDATA, B_cache⟩ := (id hE : EV Z a_EMPTY_ELEMENTDATA a_DEFAULTCAPACITY_EMPTY_ELEMENTDATA a_cache a_TRUE a_MILLISECONDS a_MILLISECONDS_name a_FALSE cl_cache)
  obtain ⟨k_DEF, A_DEF⟩ := C_DEFAULTCAPACITY_EMPTY_ELEMENTDATA.arv
  have k10 : ∀ t, own_At p e below m s₁ 17 #[.val (.int (0 : Int32)), .val (.int (3 : Int32)), .val .null] [(.int (0 : Int32))] t → own_En p e below m s₁ #[(.int (0 : Int32)), (.int (3 : Int32)), .null] 3 t := by
    intro t k
    refine k00 t ?_
    refine XS.iloadN X00.here hx rfl (hb hby d_jdk_41_method_11_code_0) rfl ?_
    show own_At p e below m s₁ 1 #[.val (.int (0 : Int32)), .val (.int (3 : Int32)), .val .null] [(.int (0 : Int32))] t
    refine XS.ifNo X00.here hx rfl (hb hby d_jdk_41_method_11_code_1) rfl ((if0 _ _).trans (flt (by decide : ¬ ((0 : Int32) < (0 : Int32)))).1) ?_
    show own_At p e below m s₁ 4 #[.val (.int (0 : Int32)), .val (.int (3 : Int32)), .val .null] [] t
    refine XS.iloadN X00.here hx rfl (hb hby d_jdk_41_method_11_code_4) rfl ?_
    show own_At p e below m s₁ 5 #[.val (.int (0 : Int32)), .val (.int (3 : Int32)), .val .null] [(.int (0 : Int32))] t
    refine XS.iloadN X00.here hx rfl (hb hby d_jdk_41_method_11_code_5) rfl ?_
    show own_At p e below m s₁ 6 #[.val (.int (0 : Int32)), .val (.int (3 : Int32)), .val .null] [(.int (3 : Int32)), (.int (0 : Int32))] t
    refine XS.icmpYes X00.here hx rfl (pc0 := 6) (pc' := 16) rfl (hb hby d_jdk_41_method_11_code_6) rfl (tlt (by decide : (0 : Int32) < (3 : Int32))).1 (by decide) (by decide) ?_
    show own_At p e below m s₁ 16 #[.val (.int (0 : Int32)), .val (.int (3 : Int32)), .val .null] [] t
    refine XS.iloadN X00.here hx rfl (hb hby d_jdk_41_method_11_code_16) rfl ?_
    show own_At p e below m s₁ 17 #[.val (.int (0 : Int32)), .val (.int (3 : Int32)), .val .null] [(.int (0 : Int32))] t
    exact k
  obtain ⟨fs, hr, hrun, hended, hW, hsame⟩ := X00.leave (v := some (.int (0 : Int32))) (fun h => by rw [Bd.returns] at h; cases h)
  refine hNG ⟨_, _, k10 _ ?_, hrun, hended, _, _, rfl, ?_, ⟨_, rfl⟩, hW, hsame.mono (by decide) (by decide)⟩
  · exact retOut X00 hx (t := .int) Bd.returns rfl (Or.inl ⟨rfl, Or.inl rfl, _, rfl⟩) (hb hby d_jdk_41_method_11_code_17) hr
  · show Q_f9 Z a_EMPTY_ELEMENTDATA a_DEFAULTCAPACITY_EMPTY_ELEMENTDATA a_cache a_TRUE a_MILLISECONDS a_MILLISECONDS_name a_FALSE cl_cache h0 n0 _ s₁.heap _
    rw [e00]
    exact ⟨rfl, N00, rfl⟩
def Q_f8 (Z : State) (a_EMPTY_ELEMENTDATA : Addr) (a_DEFAULTCAPACITY_EMPTY_ELEMENTDATA : Addr) (a_cache : Addr) (a_TRUE : Addr) (a_MILLISECONDS : Addr) (a_MILLISECONDS_name : Addr) (a_FALSE : Addr) (cl_cache : Cell) (h0 : Heap) (n0 : Nat) (v : Option Value) (h : Heap) (L : List Loc) : Prop := v = some (.int (0 : Int32)) ∧ Fr n0 L ∧ h = h0
set_option maxRecDepth 65536 in
set_option maxHeartbeats 40000000 in
theorem rm_f8 (l : Launch) (Z : State) (a0 : Array Value) (hw : ∀ d ∈ tables_1, d.before a0 Z = true) (ws : List Jvm.Cond) (a_EMPTY_ELEMENTDATA : Addr) (a_DEFAULTCAPACITY_EMPTY_ELEMENTDATA : Addr) (a_cache : Addr) (a_TRUE : Addr) (a_MILLISECONDS : Addr) (a_MILLISECONDS_name : Addr) (a_FALSE : Addr) (cl_cache : Cell) (h0 : Heap) (n0 : Nat) (O0 : Old Z n0 h0) (hE : EV Z a_EMPTY_ELEMENTDATA a_DEFAULTCAPACITY_EMPTY_ELEMENTDATA a_cache a_TRUE a_MILLISECONDS a_MILLISECONDS_name a_FALSE cl_cache) :
    MetFree l own_m13 (head1 (Jvm.Cond.code own_m13 jdk_31_method_17_code 2 (some .int) :: ws) ({ frames := 1, cells := 0, slots := 0, locals := 14 } : Room)) (fun a U => a = #[(.int (0 : Int32)), (.int (3 : Int32))] ∧ Z.Warmed39 U.vm ∧ U.heap = h0) (fun _ _ _ _ _ => True) (fun _ U o U' => ∃ v L, o = .returned v ∧ Q_f8 Z a_EMPTY_ELEMENTDATA a_DEFAULTCAPACITY_EMPTY_ELEMENTDATA a_cache a_TRUE a_MILLISECONDS a_MILLISECONDS_name a_FALSE cl_cache h0 n0 v U'.heap L ∧ FrameEnd U o U' L ({ frames := 1, cells := 0, slots := 0, locals := 14 } : Room).cells ({ frames := 1, cells := 0, slots := 0, locals := 14 } : Room).slots) := by
  refine MetFree.of_bodySF (plainFor_of_name pn_java_util_Objects) hisR ?_
  intro p e s m args below meth c s₁ Bd hml0 hP hK
  obtain ⟨rfl, hZ, hh⟩ := hP
  have hx := Bd.exec
  have hby := Bd.bytes
  have hml : c.maxLocals = 2 := hml0
  have hown : s.vm.findClass "java/util/Objects" = some m.cls := findClass_of_methodNamed Bd.named
  have hnm := (name_of_methodNamed Bd.named Bd.method).1
  have X00 : Stand p l e ({ frames := 1, cells := 0, slots := 0, locals := 14 } : Room) s m #[(.int (0 : Int32)), (.int (3 : Int32))] below meth c s₁ [] 0 0 := Stand.of_body Bd
  have e00 : s₁.heap = h0 := by rw [← hh, Bd.state]; rfl
  have N00 := Fr.nil n0
  refine Classical.byContradiction fun hNG => ?_
  have K00 := Keep.refl h0 []
  have k00 : ∀ t, own_At p e below m s₁ 0 #[.val (.int (0 : Int32)), .val (.int (3 : Int32))] [] t → own_En p e below m s₁ #[(.int (0 : Int32)), (.int (3 : Int32))] 2 t := fun t k => castTop (ef_f8 m ((0 : Int32)) ((3 : Int32)) ) k
  obtain ⟨S_EMPTY_ELEMENTDATA, E_EMPTY_ELEMENTDATA, S_DEFAULTCAPACITY_EMPTY_ELEMENTDATA, E_DEFAULTCAPACITY_EMPTY_ELEMENTDATA, S_cache, E_cache, S_TRUE, E_TRUE, F_TRUE_value, S_MILLISECONDS, E_MILLISECONDS, F_MILLISECONDS_name, E_MILLISECONDS_name, F_MILLISECONDS_ordinal, F_MILLISECONDS_scale, F_MILLISECONDS_maxNanos, F_MILLISECONDS_microRatio, F_MILLISECONDS_maxMicros, F_MILLISECONDS_milliRatio, F_MILLISECONDS_maxMillis, F_MILLISECONDS_secRatio, F_MILLISECONDS_maxSecs, S_FALSE, E_FALSE, F_FALSE_value, C_EMPTY_ELEMENTDATA, C_DEFAULTCAPACITY_EMPTY_ELEMENTDATA, B_cache⟩ := (id hE : EV Z a_EMPTY_ELEMENTDATA a_DEFAULTCAPACITY_EMPTY_ELEMENTDATA a_cache a_TRUE a_MILLISECONDS a_MILLISECONDS_name a_FALSE cl_cache)
  obtain ⟨k_DEF, A_DEF⟩ := C_DEFAULTCAPACITY_EMPTY_ELEMENTDATA.arv
  obtain ⟨_, _, ⟨T10, L10, k10, n10⟩, -, X10, ⟨Lc10, hQ10, l10, y10, z10⟩, st10⟩ := Jvm.LawKit.callS X00 hx (y := own_m12) hown (mvT hZ (own_w hw 85 rfl)) (mvT hZ (own_w hw 86 rfl)) (mvT hZ (own_w hw 87 rfl)) (mvT hZ (own_w hw 88 rfl)) (by decide) (backOf (W := 0) (rm_f9 l Z a0 hw []  _ _ _ _ _ _ _ _ h0 n0 O0 hE) hZ (own_w hw 88 rfl) (own_w hw 87 rfl) (by decide) (by decide)) (g := (mkF m 3 #[.val (.int (0 : Int32)), .val (.int (3 : Int32))] [.null, (.int (3 : Int32)), (.int (0 : Int32))])) rfl (by rw [hml]; rfl) (argsL := [(.int (0 : Int32)), (.int (3 : Int32)), .null]) (rest := []) (lenOf pd__IILjava_util_function_BiFunction__I rfl) rfl (by show 2 * 0 + _ ≤ _; exact Nat.le_of_eq rfl) (hb hby d_jdk_31_method_17_code_3) (fun _ _ => ⟨rfl, e00, (by decide : 0 + 0 ≤ _), (by decide : 0 + 0 ≤ _)⟩)
  dsimp only [Pt.U, Pt.locs, Pt.cells, Pt.slots] at X10 l10 y10 z10 st10 hQ10
  subst l10 y10 z10
  obtain ⟨rfl, N10q, hp10⟩ := hQ10
  have N10 := Fr.app N00 N10q
  have k11 : ∀ t, own_At p e below m T10 6 #[.val (.int (0 : Int32)), .val (.int (3 : Int32))] [(.int (0 : Int32))] t → own_En p e below m s₁ #[(.int (0 : Int32)), (.int (3 : Int32))] 2 t := by
    intro t k
    refine k00 t ?_
    refine XS.iloadN X00.here hx rfl (hb hby d_jdk_31_method_17_code_0) rfl ?_
    show own_At p e below m s₁ 1 #[.val (.int (0 : Int32)), .val (.int (3 : Int32))] [(.int (0 : Int32))] t
    refine XS.iloadN X00.here hx rfl (hb hby d_jdk_31_method_17_code_1) rfl ?_
    show own_At p e below m s₁ 2 #[.val (.int (0 : Int32)), .val (.int (3 : Int32))] [(.int (3 : Int32)), (.int (0 : Int32))] t
    refine XS.aconstNull X00.here hx rfl (hb hby d_jdk_31_method_17_code_2) ?_
    show own_At p e below m s₁ 3 #[.val (.int (0 : Int32)), .val (.int (3 : Int32))] [.null, (.int (3 : Int32)), (.int (0 : Int32))] t
    refine st10 _ ?_
    show own_At p e below m T10 6 #[.val (.int (0 : Int32)), .val (.int (3 : Int32))] [(.int (0 : Int32))] t
    exact k
  obtain ⟨fs, hr, hrun, hended, hW, hsame⟩ := X10.leave (v := some (.int (0 : Int32))) (fun h => by rw [Bd.returns] at h; cases h)
  refine hNG ⟨_, _, k11 _ ?_, hrun, hended, _, _, rfl, ?_, ⟨_, rfl⟩, hW, hsame.mono (by decide) (by decide)⟩
  · exact retOut X10 hx (t := .int) Bd.returns rfl (Or.inl ⟨rfl, Or.inl rfl, _, rfl⟩) (hb hby d_jdk_31_method_17_code_6) hr
  · show Q_f8 Z a_EMPTY_ELEMENTDATA a_DEFAULTCAPACITY_EMPTY_ELEMENTDATA a_cache a_TRUE a_MILLISECONDS a_MILLISECONDS_name a_FALSE cl_cache h0 n0 _ T10.heap _
    rw [hp10]
    exact ⟨rfl, N10, rfl⟩
def Q_get3_0 (Z : State) (q0 : Addr) (t0 : Addr) (k0 : ClassId) (x0 : Addr) (x1 : Addr) (x2 : Addr) (a_EMPTY_ELEMENTDATA : Addr) (a_DEFAULTCAPACITY_EMPTY_ELEMENTDATA : Addr) (a_cache : Addr) (a_TRUE : Addr) (a_MILLISECONDS : Addr) (a_MILLISECONDS_name : Addr) (a_FALSE : Addr) (cl_cache : Cell) (h0 : Heap) (n0 : Nat) (v : Option Value) (h : Heap) (L : List Loc) : Prop := v = some (.ref x0) ∧ Fr n0 L ∧ h = h0
set_option maxRecDepth 65536 in
set_option maxHeartbeats 40000000 in
theorem rm_get3_0 (l : Launch) (Z : State) (a0 : Array Value) (hw : ∀ d ∈ tables_1, d.before a0 Z = true) (ws : List Jvm.Cond) (q0 : Addr) (t0 : Addr) (k0 : ClassId) (x0 : Addr) (x1 : Addr) (x2 : Addr) (a_EMPTY_ELEMENTDATA : Addr) (a_DEFAULTCAPACITY_EMPTY_ELEMENTDATA : Addr) (a_cache : Addr) (a_TRUE : Addr) (a_MILLISECONDS : Addr) (a_MILLISECONDS_name : Addr) (a_FALSE : Addr) (cl_cache : Cell) (h0 : Heap) (n0 : Nat) (O0 : Old Z n0 h0) (hE : EV Z a_EMPTY_ELEMENTDATA a_DEFAULTCAPACITY_EMPTY_ELEMENTDATA a_cache a_TRUE a_MILLISECONDS a_MILLISECONDS_name a_FALSE cl_cache) (P0 : Fld Z h0 q0 "java/util/ArrayList" "elementData" "[Ljava/lang/Object;" (.ref t0)) (P1 : Arv Z h0 t0 k0 (.object "java/lang/Object") (10 : Int32) [(.ref x0), (.ref x1), (.ref x2), .null, .null, .null, .null, .null, .null, .null] .null) (P2 : Fld Z h0 q0 "java/util/ArrayList" "size" "I" (.int (3 : Int32))) (P3 : Exa Z h0 q0 "java/util/ArrayList") :
    MetFree l own_m14 (head1 (Jvm.Cond.code own_m14 jdk_38_method_20_code 2 (some (.object "java/lang/Object")) :: ws) ({ frames := 2, cells := 0, slots := 0, locals := 27 } : Room)) (fun a U => a = #[(.ref q0), (.int (0 : Int32))] ∧ Z.Warmed39 U.vm ∧ U.heap = h0) (fun _ _ _ _ _ => True) (fun _ U o U' => ∃ v L, o = .returned v ∧ Q_get3_0 Z q0 t0 k0 x0 x1 x2 a_EMPTY_ELEMENTDATA a_DEFAULTCAPACITY_EMPTY_ELEMENTDATA a_cache a_TRUE a_MILLISECONDS a_MILLISECONDS_name a_FALSE cl_cache h0 n0 v U'.heap L ∧ FrameEnd U o U' L ({ frames := 2, cells := 0, slots := 0, locals := 27 } : Room).cells ({ frames := 2, cells := 0, slots := 0, locals := 27 } : Room).slots) := by
  refine MetFree.of_bodySF (plainFor_of_name pn_java_util_ArrayList) hisR ?_
  intro p e s m args below meth c s₁ Bd hml0 hP hK
  obtain ⟨rfl, hZ, hh⟩ := hP
  have hx := Bd.exec
  have hby := Bd.bytes
  have hml : c.maxLocals = 2 := hml0
  have hown : s.vm.findClass "java/util/ArrayList" = some m.cls := findClass_of_methodNamed Bd.named
  have hnm := (name_of_methodNamed Bd.named Bd.method).1
  have X00 : Stand p l e ({ frames := 2, cells := 0, slots := 0, locals := 27 } : Room) s m #[(.ref q0), (.int (0 : Int32))] below meth c s₁ [] 0 0 := Stand.of_body Bd
  have e00 : s₁.heap = h0 := by rw [← hh, Bd.state]; rfl
  have N00 := Fr.nil n0
  refine Classical.byContradiction fun hNG => ?_
  have K00 := Keep.refl h0 []
  have k00 : ∀ t, own_At p e below m s₁ 0 #[.val (.ref q0), .val (.int (0 : Int32))] [] t → own_En p e below m s₁ #[(.ref q0), (.int (0 : Int32))] 2 t := fun t k => castTop (ef_get3_0 m q0 ((0 : Int32)) ) k
  obtain ⟨S_EMPTY_ELEMENTDATA, E_EMPTY_ELEMENTDATA, S_DEFAULTCAPACITY_EMPTY_ELEMENTDATA, E_DEFAULTCAPACITY_EMPTY_ELEMENTDATA, S_cache, E_cache, S_TRUE, E_TRUE, F_TRUE_value, S_MILLISECONDS, E_MILLISECONDS, F_MILLISECONDS_name, E_MILLISECONDS_name, F_MILLISECONDS_ordinal, F_MILLISECONDS_scale, F_MILLISECONDS_maxNanos, F_MILLISECONDS_microRatio, F_MILLISECONDS_maxMicros, F_MILLISECONDS_milliRatio, F_MILLISECONDS_maxMillis, F_MILLISECONDS_secRatio, F_MILLISECONDS_maxSecs, S_FALSE, E_FALSE, F_FALSE_value, C_EMPTY_ELEMENTDATA, C_DEFAULTCAPACITY_EMPTY_ELEMENTDATA, B_cache⟩ := (id hE : EV Z a_EMPTY_ELEMENTDATA a_DEFAULTCAPACITY_EMPTY_ELEMENTDATA a_cache a_TRUE a_MILLISECONDS a_MILLISECONDS_name a_FALSE cl_cache)
  obtain ⟨k_DEF, A_DEF⟩ := C_DEFAULTCAPACITY_EMPTY_ELEMENTDATA.arv
  obtain ⟨T10, X10, e10, st10⟩ := getF X00 hx hZ hown (host := "") (Or.inl (own_w hw 45 rfl)) Via.refl e00 P2 (g := (mkF m 2 #[.val (.ref q0), .val (.int (0 : Int32))] [(.ref q0), (.int (0 : Int32))])) rfl rfl (hb hby d_jdk_38_method_20_code_2)
  obtain ⟨_, _, ⟨T11, L11, k11, n11⟩, -, X11, ⟨Lc11, hQ11, l11, y11, z11⟩, st11⟩ := Jvm.LawKit.callS X10 hx (y := own_m13) hown (mvT hZ (own_w hw 81 rfl)) (mvT hZ (own_w hw 82 rfl)) (mvT hZ (own_w hw 83 rfl)) (mvT hZ (own_w hw 84 rfl)) (by decide) (backOf (W := 0) (rm_f8 l Z a0 hw []  _ _ _ _ _ _ _ _ h0 n0 O0 hE) hZ (own_w hw 84 rfl) (own_w hw 83 rfl) (by decide) (by decide)) (g := (mkF m 5 #[.val (.ref q0), .val (.int (0 : Int32))] [(.int (3 : Int32)), (.int (0 : Int32))])) rfl (by rw [hml]; rfl) (argsL := [(.int (0 : Int32)), (.int (3 : Int32))]) (rest := []) (lenOf pd__II_I rfl) rfl (by show 2 * 0 + _ ≤ _; exact Nat.le_of_eq rfl) (hb hby d_jdk_38_method_20_code_5) (fun _ _ => ⟨rfl, e10, (by decide : 0 + 0 ≤ _), (by decide : 0 + 0 ≤ _)⟩)
  dsimp only [Pt.U, Pt.locs, Pt.cells, Pt.slots] at X11 l11 y11 z11 st11 hQ11
  subst l11 y11 z11
  obtain ⟨rfl, N11q, hp11⟩ := hQ11
  have N11 := Fr.app N00 N11q
  obtain ⟨cq12, kq12, q12a, q12b, q12c⟩ := isOf hZ hp11 P3
  obtain ⟨_, _, ⟨T12, L12, k12, n12⟩, -, X12, ⟨Lc12, hQ12, l12, y12, z12⟩, st12⟩ := X11.virtualBack hx (y := own_m11) (z := own_m11) hown (mvT hZ (own_w hw 89 rfl)) (mvT hZ (own_w hw 90 rfl)) (notFace_of_selects (args := #[]) (mvT hZ (own_w hw 92 rfl))) (mvT hZ (own_w hw 92 rfl)) (mvT hZ (own_w hw 91 rfl)) (by decide) (backOf (W := 0) (rm_ed3_0 l Z a0 hw [] q0 t0 k0 x0 x1 x2 _ _ _ _ _ _ _ _ h0 n0 O0 hE P0 P1 ) hZ (own_w hw 93 rfl) (own_w hw 2 rfl) (by decide) (by decide)) q12a q12c (g := (mkF m 11 #[.val (.ref q0), .val (.int (0 : Int32))] [(.int (0 : Int32)), (.ref q0)])) rfl (by rw [hml]; rfl) (Steps.refl _) (argsL := [(.int (0 : Int32))]) (rest := []) (lenOf pd__I_Ljava_lang_Object_ rfl) rfl (by show 2 * 0 + _ ≤ _; exact Nat.le_of_eq rfl) (hb hby d_jdk_38_method_20_code_11) (fun _ _ => ⟨rfl, hp11, (by decide : 0 + 0 ≤ _), (by decide : 0 + 0 ≤ _)⟩)
  dsimp only [Pt.U, Pt.locs, Pt.cells, Pt.slots] at X12 l12 y12 z12 st12 hQ12
  subst l12 y12 z12
  obtain ⟨rfl, N12q, hp12⟩ := hQ12
  have N12 := Fr.app N11 N12q
  have k13 : ∀ t, own_At p e below m T12 14 #[.val (.ref q0), .val (.int (0 : Int32))] [(.ref x0)] t → own_En p e below m s₁ #[(.ref q0), (.int (0 : Int32))] 2 t := by
    intro t k
    refine k00 t ?_
    refine XS.iloadN X00.here hx rfl (hb hby d_jdk_38_method_20_code_0) rfl ?_
    show own_At p e below m s₁ 1 #[.val (.ref q0), .val (.int (0 : Int32))] [(.int (0 : Int32))] t
    refine XS.aloadN X00.here hx rfl (hb hby d_jdk_38_method_20_code_1) rfl rfl ?_
    show own_At p e below m s₁ 2 #[.val (.ref q0), .val (.int (0 : Int32))] [(.ref q0), (.int (0 : Int32))] t
    refine st10 _ ?_
    show own_At p e below m T10 5 #[.val (.ref q0), .val (.int (0 : Int32))] [(.int (3 : Int32)), (.int (0 : Int32))] t
    refine st11 _ ?_
    show own_At p e below m T11 8 #[.val (.ref q0), .val (.int (0 : Int32))] [(.int (0 : Int32))] t
    refine XS.pop X11.here hx rfl (hb hby d_jdk_38_method_20_code_8) rfl rfl ?_
    show own_At p e below m T11 9 #[.val (.ref q0), .val (.int (0 : Int32))] [] t
    refine XS.aloadN X11.here hx rfl (hb hby d_jdk_38_method_20_code_9) rfl rfl ?_
    show own_At p e below m T11 10 #[.val (.ref q0), .val (.int (0 : Int32))] [(.ref q0)] t
    refine XS.iloadN X11.here hx rfl (hb hby d_jdk_38_method_20_code_10) rfl ?_
    show own_At p e below m T11 11 #[.val (.ref q0), .val (.int (0 : Int32))] [(.int (0 : Int32)), (.ref q0)] t
    refine st12.trans ?_
    show own_At p e below m T12 14 #[.val (.ref q0), .val (.int (0 : Int32))] [(.ref x0)] t
    exact k
  obtain ⟨fs, hr, hrun, hended, hW, hsame⟩ := X12.leave (v := some (.ref x0)) (fun h => by rw [Bd.returns] at h; cases h)
  refine hNG ⟨_, _, k13 _ ?_, hrun, hended, _, _, rfl, ?_, ⟨_, rfl⟩, hW, hsame.mono (by decide) (by decide)⟩
  · exact retOut X12 hx (t := (.object "java/lang/Object")) Bd.returns rfl (Or.inr (Or.inr (Or.inr (Or.inr ⟨rfl, rfl, rfl⟩)))) (hb hby d_jdk_38_method_20_code_14) hr
  · show Q_get3_0 Z q0 t0 k0 x0 x1 x2 a_EMPTY_ELEMENTDATA a_DEFAULTCAPACITY_EMPTY_ELEMENTDATA a_cache a_TRUE a_MILLISECONDS a_MILLISECONDS_name a_FALSE cl_cache h0 n0 _ T12.heap _
    rw [hp12]
    exact ⟨rfl, N12, rfl⟩
theorem ef_ed3_1 (m : MethodId) (x0 : Addr) (x1 : Int32)  : entryFrame m #[(.ref x0), (.int x1)] 2 = mkF m 0 #[.val (.ref x0), .val (.int x1)] [] := by first | (simp [entryFrame, mkF, argsToLocals, Value.category]; done) | rfl
def Q_ed3_1 (Z : State) (q0 : Addr) (t0 : Addr) (k0 : ClassId) (x0 : Addr) (x1 : Addr) (x2 : Addr) (a_EMPTY_ELEMENTDATA : Addr) (a_DEFAULTCAPACITY_EMPTY_ELEMENTDATA : Addr) (a_cache : Addr) (a_TRUE : Addr) (a_MILLISECONDS : Addr) (a_MILLISECONDS_name : Addr) (a_FALSE : Addr) (cl_cache : Cell) (h0 : Heap) (n0 : Nat) (v : Option Value) (h : Heap) (L : List Loc) : Prop := v = some (.ref x1) ∧ Fr n0 L ∧ h = h0
set_option maxRecDepth 65536 in
set_option maxHeartbeats 40000000 in
theorem rm_ed3_1 (l : Launch) (Z : State) (a0 : Array Value) (hw : ∀ d ∈ tables_1, d.before a0 Z = true) (ws : List Jvm.Cond) (q0 : Addr) (t0 : Addr) (k0 : ClassId) (x0 : Addr) (x1 : Addr) (x2 : Addr) (a_EMPTY_ELEMENTDATA : Addr) (a_DEFAULTCAPACITY_EMPTY_ELEMENTDATA : Addr) (a_cache : Addr) (a_TRUE : Addr) (a_MILLISECONDS : Addr) (a_MILLISECONDS_name : Addr) (a_FALSE : Addr) (cl_cache : Cell) (h0 : Heap) (n0 : Nat) (O0 : Old Z n0 h0) (hE : EV Z a_EMPTY_ELEMENTDATA a_DEFAULTCAPACITY_EMPTY_ELEMENTDATA a_cache a_TRUE a_MILLISECONDS a_MILLISECONDS_name a_FALSE cl_cache) (P0 : Fld Z h0 q0 "java/util/ArrayList" "elementData" "[Ljava/lang/Object;" (.ref t0)) (P1 : Arv Z h0 t0 k0 (.object "java/lang/Object") (10 : Int32) [(.ref x0), (.ref x1), (.ref x2), .null, .null, .null, .null, .null, .null, .null] .null) :
    MetFree l own_m11 (head1 (Jvm.Cond.code own_m11 jdk_38_method_18_code 2 (some (.object "java/lang/Object")) :: ws) ({ frames := 0, cells := 0, slots := 0, locals := 0 } : Room)) (fun a U => a = #[(.ref q0), (.int (1 : Int32))] ∧ Z.Warmed39 U.vm ∧ U.heap = h0) (fun _ _ _ _ _ => True) (fun _ U o U' => ∃ v L, o = .returned v ∧ Q_ed3_1 Z q0 t0 k0 x0 x1 x2 a_EMPTY_ELEMENTDATA a_DEFAULTCAPACITY_EMPTY_ELEMENTDATA a_cache a_TRUE a_MILLISECONDS a_MILLISECONDS_name a_FALSE cl_cache h0 n0 v U'.heap L ∧ FrameEnd U o U' L ({ frames := 0, cells := 0, slots := 0, locals := 0 } : Room).cells ({ frames := 0, cells := 0, slots := 0, locals := 0 } : Room).slots) := by
  refine MetFree.of_bodySF (plainFor_of_name pn_java_util_ArrayList) hisR ?_
  intro p e s m args below meth c s₁ Bd hml0 hP hK
  obtain ⟨rfl, hZ, hh⟩ := hP
  have hx := Bd.exec
  have hby := Bd.bytes
  have hml : c.maxLocals = 2 := hml0
  have hown : s.vm.findClass "java/util/ArrayList" = some m.cls := findClass_of_methodNamed Bd.named
  have hnm := (name_of_methodNamed Bd.named Bd.method).1
  have X00 : Stand p l e ({ frames := 0, cells := 0, slots := 0, locals := 0 } : Room) s m #[(.ref q0), (.int (1 : Int32))] below meth c s₁ [] 0 0 := Stand.of_body Bd
  have e00 : s₁.heap = h0 := by rw [← hh, Bd.state]; rfl
  have N00 := Fr.nil n0
  refine Classical.byContradiction fun hNG => ?_
  have K00 := Keep.refl h0 []
  have k00 : ∀ t, own_At p e below m s₁ 0 #[.val (.ref q0), .val (.int (1 : Int32))] [] t → own_En p e below m s₁ #[(.ref q0), (.int (1 : Int32))] 2 t := fun t k => castTop (ef_ed3_1 m q0 ((1 : Int32)) ) k
  obtain ⟨S_EMPTY_ELEMENTDATA, E_EMPTY_ELEMENTDATA, S_DEFAULTCAPACITY_EMPTY_ELEMENTDATA, E_DEFAULTCAPACITY_EMPTY_ELEMENTDATA, S_cache, E_cache, S_TRUE, E_TRUE, F_TRUE_value, S_MILLISECONDS, E_MILLISECONDS, F_MILLISECONDS_name, E_MILLISECONDS_name, F_MILLISECONDS_ordinal, F_MILLISECONDS_scale, F_MILLISECONDS_maxNanos, F_MILLISECONDS_microRatio, F_MILLISECONDS_maxMicros, F_MILLISECONDS_milliRatio, F_MILLISECONDS_maxMillis, F_MILLISECONDS_secRatio, F_MILLISECONDS_maxSecs, S_FALSE, E_FALSE, F_FALSE_value, C_EMPTY_ELEMENTDATA, C_DEFAULTCAPACITY_EMPTY_ELEMENTDATA, B_cache⟩ := (id hE : EV Z a_EMPTY_ELEMENTDATA a_DEFAULTCAPACITY_EMPTY_ELEMENTDATA a_cache a_TRUE a_MILLISECONDS a_MILLISECONDS_name a_FALSE cl_cache)
  obtain ⟨k_DEF, A_DEF⟩ := C_DEFAULTCAPACITY_EMPTY_ELEMENTDATA.arv
  obtain ⟨T10, X10, e10, st10⟩ := getF X00 hx hZ hown (host := "") (Or.inl (own_w hw 24 rfl)) Via.refl e00 P0 (g := (mkF m 1 #[.val (.ref q0), .val (.int (1 : Int32))] [(.ref q0)])) rfl rfl (hb hby d_jdk_38_method_18_code_1)
  obtain ⟨cl11, Ar11, q11, Sz11, Nn11, Hs11, Gf11⟩ := id P1
  have hin12 : ¬ ((1 : Int32) < 0 ∨ cl11.slots.size ≤ ((1 : Int32)).toNatClampNeg) := inb_of Sz11 ⟨by decide, by decide⟩
  have hat13 : cl11.slots[((1 : Int32)).toNatClampNeg]? = some (.ref x1) := Hs11.at hin12 rfl
  have k14 : ∀ t, own_At p e below m T10 6 #[.val (.ref q0), .val (.int (1 : Int32))] [(.ref x1)] t → own_En p e below m s₁ #[(.ref q0), (.int (1 : Int32))] 2 t := by
    intro t k
    refine k00 t ?_
    refine XS.aloadN X00.here hx rfl (hb hby d_jdk_38_method_18_code_0) rfl rfl ?_
    show own_At p e below m s₁ 1 #[.val (.ref q0), .val (.int (1 : Int32))] [(.ref q0)] t
    refine st10 _ ?_
    show own_At p e below m T10 4 #[.val (.ref q0), .val (.int (1 : Int32))] [(.ref t0)] t
    refine XS.iloadN X10.here hx rfl (hb hby d_jdk_38_method_18_code_4) rfl ?_
    show own_At p e below m T10 5 #[.val (.ref q0), .val (.int (1 : Int32))] [(.int (1 : Int32)), (.ref t0)] t
    refine X10.aaload hx (j := (1 : Int32)) (v := (.ref x1)) (by rw [e10]; exact Ar11.1) (State.isArrayOf_alike hZ.alike Ar11.2.1) rfl Ar11.2.2 hin12 hat13 (g := (mkF m 5 #[.val (.ref q0), .val (.int (1 : Int32))] [(.int (1 : Int32)), (.ref t0)])) rfl rfl (hb hby d_jdk_38_method_18_code_5) _ ?_
    show own_At p e below m T10 6 #[.val (.ref q0), .val (.int (1 : Int32))] [(.ref x1)] t
    exact k
  obtain ⟨fs, hr, hrun, hended, hW, hsame⟩ := X10.leave (v := some (.ref x1)) (fun h => by rw [Bd.returns] at h; cases h)
  refine hNG ⟨_, _, k14 _ ?_, hrun, hended, _, _, rfl, ?_, ⟨_, rfl⟩, hW, hsame.mono (by decide) (by decide)⟩
  · exact retOut X10 hx (t := (.object "java/lang/Object")) Bd.returns rfl (Or.inr (Or.inr (Or.inr (Or.inr ⟨rfl, rfl, rfl⟩)))) (hb hby d_jdk_38_method_18_code_6) hr
  · show Q_ed3_1 Z q0 t0 k0 x0 x1 x2 a_EMPTY_ELEMENTDATA a_DEFAULTCAPACITY_EMPTY_ELEMENTDATA a_cache a_TRUE a_MILLISECONDS a_MILLISECONDS_name a_FALSE cl_cache h0 n0 _ T10.heap _
    rw [e10]
    exact ⟨rfl, N00, rfl⟩
theorem ef_get3_1 (m : MethodId) (x0 : Addr) (x1 : Int32)  : entryFrame m #[(.ref x0), (.int x1)] 2 = mkF m 0 #[.val (.ref x0), .val (.int x1)] [] := by first | (simp [entryFrame, mkF, argsToLocals, Value.category]; done) | rfl
theorem ef_f10 (m : MethodId) (x0 : Int32) (x1 : Int32)  : entryFrame m #[(.int x0), (.int x1)] 2 = mkF m 0 #[.val (.int x0), .val (.int x1)] [] := by first | (simp [entryFrame, mkF, argsToLocals, Value.category]; done) | rfl
theorem ef_f11 (m : MethodId) (x0 : Int32) (x1 : Int32)  : entryFrame m #[(.int x0), (.int x1), .null] 3 = mkF m 0 #[.val (.int x0), .val (.int x1), .val .null] [] := by first | (simp [entryFrame, mkF, argsToLocals, Value.category]; done) | rfl
def Q_f11 (Z : State) (a_EMPTY_ELEMENTDATA : Addr) (a_DEFAULTCAPACITY_EMPTY_ELEMENTDATA : Addr) (a_cache : Addr) (a_TRUE : Addr) (a_MILLISECONDS : Addr) (a_MILLISECONDS_name : Addr) (a_FALSE : Addr) (cl_cache : Cell) (h0 : Heap) (n0 : Nat) (v : Option Value) (h : Heap) (L : List Loc) : Prop := v = some (.int (1 : Int32)) ∧ Fr n0 L ∧ h = h0
set_option maxRecDepth 65536 in
set_option maxHeartbeats 40000000 in
theorem rm_f11 (l : Launch) (Z : State) (a0 : Array Value) (hw : ∀ d ∈ tables_1, d.before a0 Z = true) (ws : List Jvm.Cond) (a_EMPTY_ELEMENTDATA : Addr) (a_DEFAULTCAPACITY_EMPTY_ELEMENTDATA : Addr) (a_cache : Addr) (a_TRUE : Addr) (a_MILLISECONDS : Addr) (a_MILLISECONDS_name : Addr) (a_FALSE : Addr) (cl_cache : Cell) (h0 : Heap) (n0 : Nat) (O0 : Old Z n0 h0) (hE : EV Z a_EMPTY_ELEMENTDATA a_DEFAULTCAPACITY_EMPTY_ELEMENTDATA a_cache a_TRUE a_MILLISECONDS a_MILLISECONDS_name a_FALSE cl_cache) :
    MetFree l own_m12 (head1 (Jvm.Cond.code own_m12 jdk_41_method_11_code 3 (some .int) :: ws) ({ frames := 0, cells := 0, slots := 0, locals := 0 } : Room)) (fun a U => a = #[(.int (1 : Int32)), (.int (3 : Int32)), .null] ∧ Z.Warmed39 U.vm ∧ U.heap = h0) (fun _ _ _ _ _ => True) (fun _ U o U' => ∃ v L, o = .returned v ∧ Q_f11 Z a_EMPTY_ELEMENTDATA a_DEFAULTCAPACITY_EMPTY_ELEMENTDATA a_cache a_TRUE a_MILLISECONDS a_MILLISECONDS_name a_FALSE cl_cache h0 n0 v U'.heap L ∧ FrameEnd U o U' L ({ frames := 0, cells := 0, slots := 0, locals := 0 } : Room).cells ({ frames := 0, cells := 0, slots := 0, locals := 0 } : Room).slots) := by
  refine MetFree.of_bodySF (plainFor_of_name pn_jdk_internal_util_Preconditions) hisR ?_
  intro p e s m args below meth c s₁ Bd hml0 hP hK
  obtain ⟨rfl, hZ, hh⟩ := hP
  have hx := Bd.exec
  have hby := Bd.bytes
  have hml : c.maxLocals = 3 := hml0
  have hown : s.vm.findClass "jdk/internal/util/Preconditions" = some m.cls := findClass_of_methodNamed Bd.named
  have hnm := (name_of_methodNamed Bd.named Bd.method).1
  have X00 : Stand p l e ({ frames := 0, cells := 0, slots := 0, locals := 0 } : Room) s m #[(.int (1 : Int32)), (.int (3 : Int32)), .null] below meth c s₁ [] 0 0 := Stand.of_body Bd
  have e00 : s₁.heap = h0 := by rw [← hh, Bd.state]; rfl
  have N00 := Fr.nil n0
  refine Classical.byContradiction fun hNG => ?_
  have K00 := Keep.refl h0 []
  have k00 : ∀ t, own_At p e below m s₁ 0 #[.val (.int (1 : Int32)), .val (.int (3 : Int32)), .val .null] [] t → own_En p e below m s₁ #[(.int (1 : Int32)), (.int (3 : Int32)), .null] 3 t := fun t k => castTop (ef_f11 m ((1 : Int32)) ((3 : Int32)) ) k
  obtain ⟨S_EMPTY_ELEMENTDATA, E_EMPTY_ELEMENTDATA, S_DEFAULTCAPACITY_EMPTY_ELEMENTDATA, E_DEFAULTCAPACITY_EMPTY_ELEMENTDATA, S_cache, E_cache, S_TRUE, E_TRUE, F_TRUE_value, S_MILLISECONDS, E_MILLISECONDS, F_MILLISECONDS_name, E_MILLISECONDS_name, F_MILLISECONDS_ordinal, F_MILLISECONDS_scale, F_MILLISECONDS_maxNanos, F_MILLISECONDS_microRatio, F_MILLISECONDS_maxMicros, F_MILLISECONDS_milliRatio, F_MILLISECONDS_maxMillis, F_MILLISECONDS_secRatio, F_MILLISECONDS_maxSecs, S_FALSE, E_FALSE, F_FALSE_value, C_EMPTY_ELEMENTDATA, C_DEFAULTCAPACITY_EMPTY_ELEMENTDATA, B_cache⟩ := (id hE : EV Z a_EMPTY_ELEMENTDATA a_DEFAULTCAPACITY_EMPTY_ELEMENTDATA a_cache a_TRUE a_MILLISECONDS a_MILLISECONDS_name a_FALSE cl_cache)
  obtain ⟨k_DEF, A_DEF⟩ := C_DEFAULTCAPACITY_EMPTY_ELEMENTDATA.arv
  have k10 : ∀ t, own_At p e below m s₁ 17 #[.val (.int (1 : Int32)), .val (.int (3 : Int32)), .val .null] [(.int (1 : Int32))] t → own_En p e below m s₁ #[(.int (1 : Int32)), (.int (3 : Int32)), .null] 3 t := by
    intro t k
    refine k00 t ?_
    refine XS.iloadN X00.here hx rfl (hb hby d_jdk_41_method_11_code_0) rfl ?_
    show own_At p e below m s₁ 1 #[.val (.int (1 : Int32)), .val (.int (3 : Int32)), .val .null] [(.int (1 : Int32))] t
    refine XS.ifNo X00.here hx rfl (hb hby d_jdk_41_method_11_code_1) rfl ((if0 _ _).trans (flt (by decide : ¬ ((1 : Int32) < (0 : Int32)))).1) ?_
    show own_At p e below m s₁ 4 #[.val (.int (1 : Int32)), .val (.int (3 : Int32)), .val .null] [] t
    refine XS.iloadN X00.here hx rfl (hb hby d_jdk_41_method_11_code_4) rfl ?_
    show own_At p e below m s₁ 5 #[.val (.int (1 : Int32)), .val (.int (3 : Int32)), .val .null] [(.int (1 : Int32))] t
    refine XS.iloadN X00.here hx rfl (hb hby d_jdk_41_method_11_code_5) rfl ?_
    show own_At p e below m s₁ 6 #[.val (.int (1 : Int32)), .val (.int (3 : Int32)), .val .null] [(.int (3 : Int32)), (.int (1 : Int32))] t
    refine XS.icmpYes X00.here hx rfl (pc0 := 6) (pc' := 16) rfl (hb hby d_jdk_41_method_11_code_6) rfl (tlt (by decide : (1 : Int32) < (3 : Int32))).1 (by decide) (by decide) ?_
    show own_At p e below m s₁ 16 #[.val (.int (1 : Int32)), .val (.int (3 : Int32)), .val .null] [] t
    refine XS.iloadN X00.here hx rfl (hb hby d_jdk_41_method_11_code_16) rfl ?_
    show own_At p e below m s₁ 17 #[.val (.int (1 : Int32)), .val (.int (3 : Int32)), .val .null] [(.int (1 : Int32))] t
    exact k
  obtain ⟨fs, hr, hrun, hended, hW, hsame⟩ := X00.leave (v := some (.int (1 : Int32))) (fun h => by rw [Bd.returns] at h; cases h)
  refine hNG ⟨_, _, k10 _ ?_, hrun, hended, _, _, rfl, ?_, ⟨_, rfl⟩, hW, hsame.mono (by decide) (by decide)⟩
  · exact retOut X00 hx (t := .int) Bd.returns rfl (Or.inl ⟨rfl, Or.inl rfl, _, rfl⟩) (hb hby d_jdk_41_method_11_code_17) hr
  · show Q_f11 Z a_EMPTY_ELEMENTDATA a_DEFAULTCAPACITY_EMPTY_ELEMENTDATA a_cache a_TRUE a_MILLISECONDS a_MILLISECONDS_name a_FALSE cl_cache h0 n0 _ s₁.heap _
    rw [e00]
    exact ⟨rfl, N00, rfl⟩
def Q_f10 (Z : State) (a_EMPTY_ELEMENTDATA : Addr) (a_DEFAULTCAPACITY_EMPTY_ELEMENTDATA : Addr) (a_cache : Addr) (a_TRUE : Addr) (a_MILLISECONDS : Addr) (a_MILLISECONDS_name : Addr) (a_FALSE : Addr) (cl_cache : Cell) (h0 : Heap) (n0 : Nat) (v : Option Value) (h : Heap) (L : List Loc) : Prop := v = some (.int (1 : Int32)) ∧ Fr n0 L ∧ h = h0
set_option maxRecDepth 65536 in
set_option maxHeartbeats 40000000 in
theorem rm_f10 (l : Launch) (Z : State) (a0 : Array Value) (hw : ∀ d ∈ tables_1, d.before a0 Z = true) (ws : List Jvm.Cond) (a_EMPTY_ELEMENTDATA : Addr) (a_DEFAULTCAPACITY_EMPTY_ELEMENTDATA : Addr) (a_cache : Addr) (a_TRUE : Addr) (a_MILLISECONDS : Addr) (a_MILLISECONDS_name : Addr) (a_FALSE : Addr) (cl_cache : Cell) (h0 : Heap) (n0 : Nat) (O0 : Old Z n0 h0) (hE : EV Z a_EMPTY_ELEMENTDATA a_DEFAULTCAPACITY_EMPTY_ELEMENTDATA a_cache a_TRUE a_MILLISECONDS a_MILLISECONDS_name a_FALSE cl_cache) :
    MetFree l own_m13 (head1 (Jvm.Cond.code own_m13 jdk_31_method_17_code 2 (some .int) :: ws) ({ frames := 1, cells := 0, slots := 0, locals := 14 } : Room)) (fun a U => a = #[(.int (1 : Int32)), (.int (3 : Int32))] ∧ Z.Warmed39 U.vm ∧ U.heap = h0) (fun _ _ _ _ _ => True) (fun _ U o U' => ∃ v L, o = .returned v ∧ Q_f10 Z a_EMPTY_ELEMENTDATA a_DEFAULTCAPACITY_EMPTY_ELEMENTDATA a_cache a_TRUE a_MILLISECONDS a_MILLISECONDS_name a_FALSE cl_cache h0 n0 v U'.heap L ∧ FrameEnd U o U' L ({ frames := 1, cells := 0, slots := 0, locals := 14 } : Room).cells ({ frames := 1, cells := 0, slots := 0, locals := 14 } : Room).slots) := by
  refine MetFree.of_bodySF (plainFor_of_name pn_java_util_Objects) hisR ?_
  intro p e s m args below meth c s₁ Bd hml0 hP hK
  obtain ⟨rfl, hZ, hh⟩ := hP
  have hx := Bd.exec
  have hby := Bd.bytes
  have hml : c.maxLocals = 2 := hml0
  have hown : s.vm.findClass "java/util/Objects" = some m.cls := findClass_of_methodNamed Bd.named
  have hnm := (name_of_methodNamed Bd.named Bd.method).1
  have X00 : Stand p l e ({ frames := 1, cells := 0, slots := 0, locals := 14 } : Room) s m #[(.int (1 : Int32)), (.int (3 : Int32))] below meth c s₁ [] 0 0 := Stand.of_body Bd
  have e00 : s₁.heap = h0 := by rw [← hh, Bd.state]; rfl
  have N00 := Fr.nil n0
  refine Classical.byContradiction fun hNG => ?_
  have K00 := Keep.refl h0 []
  have k00 : ∀ t, own_At p e below m s₁ 0 #[.val (.int (1 : Int32)), .val (.int (3 : Int32))] [] t → own_En p e below m s₁ #[(.int (1 : Int32)), (.int (3 : Int32))] 2 t := fun t k => castTop (ef_f10 m ((1 : Int32)) ((3 : Int32)) ) k
  obtain ⟨S_EMPTY_ELEMENTDATA, E_EMPTY_ELEMENTDATA, S_DEFAULTCAPACITY_EMPTY_ELEMENTDATA, E_DEFAULTCAPACITY_EMPTY_ELEMENTDATA, S_cache, E_cache, S_TRUE, E_TRUE, F_TRUE_value, S_MILLISECONDS, E_MILLISECONDS, F_MILLISECONDS_name, E_MILLISECONDS_name, F_MILLISECONDS_ordinal, F_MILLISECONDS_scale, F_MILLISECONDS_maxNanos, F_MILLISECONDS_microRatio, F_MILLISECONDS_maxMicros, F_MILLISECONDS_milliRatio, F_MILLISECONDS_maxMillis, F_MILLISECONDS_secRatio, F_MILLISECONDS_maxSecs, S_FALSE, E_FALSE, F_FALSE_value, C_EMPTY_ELEMENTDATA, C_DEFAULTCAPACITY_EMPTY_ELEMENTDATA, B_cache⟩ := (id hE : EV Z a_EMPTY_ELEMENTDATA a_DEFAULTCAPACITY_EMPTY_ELEMENTDATA a_cache a_TRUE a_MILLISECONDS a_MILLISECONDS_name a_FALSE cl_cache)
  obtain ⟨k_DEF, A_DEF⟩ := C_DEFAULTCAPACITY_EMPTY_ELEMENTDATA.arv
  obtain ⟨_, _, ⟨T10, L10, k10, n10⟩, -, X10, ⟨Lc10, hQ10, l10, y10, z10⟩, st10⟩ := Jvm.LawKit.callS X00 hx (y := own_m12) hown (mvT hZ (own_w hw 85 rfl)) (mvT hZ (own_w hw 86 rfl)) (mvT hZ (own_w hw 87 rfl)) (mvT hZ (own_w hw 88 rfl)) (by decide) (backOf (W := 0) (rm_f11 l Z a0 hw []  _ _ _ _ _ _ _ _ h0 n0 O0 hE) hZ (own_w hw 88 rfl) (own_w hw 87 rfl) (by decide) (by decide)) (g := (mkF m 3 #[.val (.int (1 : Int32)), .val (.int (3 : Int32))] [.null, (.int (3 : Int32)), (.int (1 : Int32))])) rfl (by rw [hml]; rfl) (argsL := [(.int (1 : Int32)), (.int (3 : Int32)), .null]) (rest := []) (lenOf pd__IILjava_util_function_BiFunction__I rfl) rfl (by show 2 * 0 + _ ≤ _; exact Nat.le_of_eq rfl) (hb hby d_jdk_31_method_17_code_3) (fun _ _ => ⟨rfl, e00, (by decide : 0 + 0 ≤ _), (by decide : 0 + 0 ≤ _)⟩)
  dsimp only [Pt.U, Pt.locs, Pt.cells, Pt.slots] at X10 l10 y10 z10 st10 hQ10
  subst l10 y10 z10
  obtain ⟨rfl, N10q, hp10⟩ := hQ10
  have N10 := Fr.app N00 N10q
  have k11 : ∀ t, own_At p e below m T10 6 #[.val (.int (1 : Int32)), .val (.int (3 : Int32))] [(.int (1 : Int32))] t → own_En p e below m s₁ #[(.int (1 : Int32)), (.int (3 : Int32))] 2 t := by
    intro t k
    refine k00 t ?_
    refine XS.iloadN X00.here hx rfl (hb hby d_jdk_31_method_17_code_0) rfl ?_
    show own_At p e below m s₁ 1 #[.val (.int (1 : Int32)), .val (.int (3 : Int32))] [(.int (1 : Int32))] t
    refine XS.iloadN X00.here hx rfl (hb hby d_jdk_31_method_17_code_1) rfl ?_
    show own_At p e below m s₁ 2 #[.val (.int (1 : Int32)), .val (.int (3 : Int32))] [(.int (3 : Int32)), (.int (1 : Int32))] t
    refine XS.aconstNull X00.here hx rfl (hb hby d_jdk_31_method_17_code_2) ?_
    show own_At p e below m s₁ 3 #[.val (.int (1 : Int32)), .val (.int (3 : Int32))] [.null, (.int (3 : Int32)), (.int (1 : Int32))] t
    refine st10 _ ?_
    show own_At p e below m T10 6 #[.val (.int (1 : Int32)), .val (.int (3 : Int32))] [(.int (1 : Int32))] t
    exact k
  obtain ⟨fs, hr, hrun, hended, hW, hsame⟩ := X10.leave (v := some (.int (1 : Int32))) (fun h => by rw [Bd.returns] at h; cases h)
  refine hNG ⟨_, _, k11 _ ?_, hrun, hended, _, _, rfl, ?_, ⟨_, rfl⟩, hW, hsame.mono (by decide) (by decide)⟩
  · exact retOut X10 hx (t := .int) Bd.returns rfl (Or.inl ⟨rfl, Or.inl rfl, _, rfl⟩) (hb hby d_jdk_31_method_17_code_6) hr
  · show Q_f10 Z a_EMPTY_ELEMENTDATA a_DEFAULTCAPACITY_EMPTY_ELEMENTDATA a_cache a_TRUE a_MILLISECONDS a_MILLISECONDS_name a_FALSE cl_cache h0 n0 _ T10.heap _
    rw [hp10]
    exact ⟨rfl, N10, rfl⟩
def Q_get3_1 (Z : State) (q0 : Addr) (t0 : Addr) (k0 : ClassId) (x0 : Addr) (x1 : Addr) (x2 : Addr) (a_EMPTY_ELEMENTDATA : Addr) (a_DEFAULTCAPACITY_EMPTY_ELEMENTDATA : Addr) (a_cache : Addr) (a_TRUE : Addr) (a_MILLISECONDS : Addr) (a_MILLISECONDS_name : Addr) (a_FALSE : Addr) (cl_cache : Cell) (h0 : Heap) (n0 : Nat) (v : Option Value) (h : Heap) (L : List Loc) : Prop := v = some (.ref x1) ∧ Fr n0 L ∧ h = h0
set_option maxRecDepth 65536 in
set_option maxHeartbeats 40000000 in
theorem rm_get3_1 (l : Launch) (Z : State) (a0 : Array Value) (hw : ∀ d ∈ tables_1, d.before a0 Z = true) (ws : List Jvm.Cond) (q0 : Addr) (t0 : Addr) (k0 : ClassId) (x0 : Addr) (x1 : Addr) (x2 : Addr) (a_EMPTY_ELEMENTDATA : Addr) (a_DEFAULTCAPACITY_EMPTY_ELEMENTDATA : Addr) (a_cache : Addr) (a_TRUE : Addr) (a_MILLISECONDS : Addr) (a_MILLISECONDS_name : Addr) (a_FALSE : Addr) (cl_cache : Cell) (h0 : Heap) (n0 : Nat) (O0 : Old Z n0 h0) (hE : EV Z a_EMPTY_ELEMENTDATA a_DEFAULTCAPACITY_EMPTY_ELEMENTDATA a_cache a_TRUE a_MILLISECONDS a_MILLISECONDS_name a_FALSE cl_cache) (P0 : Fld Z h0 q0 "java/util/ArrayList" "elementData" "[Ljava/lang/Object;" (.ref t0)) (P1 : Arv Z h0 t0 k0 (.object "java/lang/Object") (10 : Int32) [(.ref x0), (.ref x1), (.ref x2), .null, .null, .null, .null, .null, .null, .null] .null) (P2 : Fld Z h0 q0 "java/util/ArrayList" "size" "I" (.int (3 : Int32))) (P3 : Exa Z h0 q0 "java/util/ArrayList") :
    MetFree l own_m14 (head1 (Jvm.Cond.code own_m14 jdk_38_method_20_code 2 (some (.object "java/lang/Object")) :: ws) ({ frames := 2, cells := 0, slots := 0, locals := 27 } : Room)) (fun a U => a = #[(.ref q0), (.int (1 : Int32))] ∧ Z.Warmed39 U.vm ∧ U.heap = h0) (fun _ _ _ _ _ => True) (fun _ U o U' => ∃ v L, o = .returned v ∧ Q_get3_1 Z q0 t0 k0 x0 x1 x2 a_EMPTY_ELEMENTDATA a_DEFAULTCAPACITY_EMPTY_ELEMENTDATA a_cache a_TRUE a_MILLISECONDS a_MILLISECONDS_name a_FALSE cl_cache h0 n0 v U'.heap L ∧ FrameEnd U o U' L ({ frames := 2, cells := 0, slots := 0, locals := 27 } : Room).cells ({ frames := 2, cells := 0, slots := 0, locals := 27 } : Room).slots) := by
  refine MetFree.of_bodySF (plainFor_of_name pn_java_util_ArrayList) hisR ?_
  intro p e s m args below meth c s₁ Bd hml0 hP hK
  obtain ⟨rfl, hZ, hh⟩ := hP
  have hx := Bd.exec
  have hby := Bd.bytes
  have hml : c.maxLocals = 2 := hml0
  have hown : s.vm.findClass "java/util/ArrayList" = some m.cls := findClass_of_methodNamed Bd.named
  have hnm := (name_of_methodNamed Bd.named Bd.method).1
  have X00 : Stand p l e ({ frames := 2, cells := 0, slots := 0, locals := 27 } : Room) s m #[(.ref q0), (.int (1 : Int32))] below meth c s₁ [] 0 0 := Stand.of_body Bd
  have e00 : s₁.heap = h0 := by rw [← hh, Bd.state]; rfl
  have N00 := Fr.nil n0
  refine Classical.byContradiction fun hNG => ?_
  have K00 := Keep.refl h0 []
  have k00 : ∀ t, own_At p e below m s₁ 0 #[.val (.ref q0), .val (.int (1 : Int32))] [] t → own_En p e below m s₁ #[(.ref q0), (.int (1 : Int32))] 2 t := fun t k => castTop (ef_get3_1 m q0 ((1 : Int32)) ) k
  obtain ⟨S_EMPTY_ELEMENTDATA, E_EMPTY_ELEMENTDATA, S_DEFAULTCAPACITY_EMPTY_ELEMENTDATA, E_DEFAULTCAPACITY_EMPTY_ELEMENTDATA, S_cache, E_cache, S_TRUE, E_TRUE, F_TRUE_value, S_MILLISECONDS, E_MILLISECONDS, F_MILLISECONDS_name, E_MILLISECONDS_name, F_MILLISECONDS_ordinal, F_MILLISECONDS_scale, F_MILLISECONDS_maxNanos, F_MILLISECONDS_microRatio, F_MILLISECONDS_maxMicros, F_MILLISECONDS_milliRatio, F_MILLISECONDS_maxMillis, F_MILLISECONDS_secRatio, F_MILLISECONDS_maxSecs, S_FALSE, E_FALSE, F_FALSE_value, C_EMPTY_ELEMENTDATA, C_DEFAULTCAPACITY_EMPTY_ELEMENTDATA, B_cache⟩ := (id hE : EV Z a_EMPTY_ELEMENTDATA a_DEFAULTCAPACITY_EMPTY_ELEMENTDATA a_cache a_TRUE a_MILLISECONDS a_MILLISECONDS_name a_FALSE cl_cache)
  obtain ⟨k_DEF, A_DEF⟩ := C_DEFAULTCAPACITY_EMPTY_ELEMENTDATA.arv
  obtain ⟨T10, X10, e10, st10⟩ := getF X00 hx hZ hown (host := "") (Or.inl (own_w hw 45 rfl)) Via.refl e00 P2 (g := (mkF m 2 #[.val (.ref q0), .val (.int (1 : Int32))] [(.ref q0), (.int (1 : Int32))])) rfl rfl (hb hby d_jdk_38_method_20_code_2)
  obtain ⟨_, _, ⟨T11, L11, k11, n11⟩, -, X11, ⟨Lc11, hQ11, l11, y11, z11⟩, st11⟩ := Jvm.LawKit.callS X10 hx (y := own_m13) hown (mvT hZ (own_w hw 81 rfl)) (mvT hZ (own_w hw 82 rfl)) (mvT hZ (own_w hw 83 rfl)) (mvT hZ (own_w hw 84 rfl)) (by decide) (backOf (W := 0) (rm_f10 l Z a0 hw []  _ _ _ _ _ _ _ _ h0 n0 O0 hE) hZ (own_w hw 84 rfl) (own_w hw 83 rfl) (by decide) (by decide)) (g := (mkF m 5 #[.val (.ref q0), .val (.int (1 : Int32))] [(.int (3 : Int32)), (.int (1 : Int32))])) rfl (by rw [hml]; rfl) (argsL := [(.int (1 : Int32)), (.int (3 : Int32))]) (rest := []) (lenOf pd__II_I rfl) rfl (by show 2 * 0 + _ ≤ _; exact Nat.le_of_eq rfl) (hb hby d_jdk_38_method_20_code_5) (fun _ _ => ⟨rfl, e10, (by decide : 0 + 0 ≤ _), (by decide : 0 + 0 ≤ _)⟩)
  dsimp only [Pt.U, Pt.locs, Pt.cells, Pt.slots] at X11 l11 y11 z11 st11 hQ11
  subst l11 y11 z11
  obtain ⟨rfl, N11q, hp11⟩ := hQ11
  have N11 := Fr.app N00 N11q
  obtain ⟨cq12, kq12, q12a, q12b, q12c⟩ := isOf hZ hp11 P3
  obtain ⟨_, _, ⟨T12, L12, k12, n12⟩, -, X12, ⟨Lc12, hQ12, l12, y12, z12⟩, st12⟩ := X11.virtualBack hx (y := own_m11) (z := own_m11) hown (mvT hZ (own_w hw 89 rfl)) (mvT hZ (own_w hw 90 rfl)) (notFace_of_selects (args := #[]) (mvT hZ (own_w hw 92 rfl))) (mvT hZ (own_w hw 92 rfl)) (mvT hZ (own_w hw 91 rfl)) (by decide) (backOf (W := 0) (rm_ed3_1 l Z a0 hw [] q0 t0 k0 x0 x1 x2 _ _ _ _ _ _ _ _ h0 n0 O0 hE P0 P1 ) hZ (own_w hw 93 rfl) (own_w hw 2 rfl) (by decide) (by decide)) q12a q12c (g := (mkF m 11 #[.val (.ref q0), .val (.int (1 : Int32))] [(.int (1 : Int32)), (.ref q0)])) rfl (by rw [hml]; rfl) (Steps.refl _) (argsL := [(.int (1 : Int32))]) (rest := []) (lenOf pd__I_Ljava_lang_Object_ rfl) rfl (by show 2 * 0 + _ ≤ _; exact Nat.le_of_eq rfl) (hb hby d_jdk_38_method_20_code_11) (fun _ _ => ⟨rfl, hp11, (by decide : 0 + 0 ≤ _), (by decide : 0 + 0 ≤ _)⟩)
  dsimp only [Pt.U, Pt.locs, Pt.cells, Pt.slots] at X12 l12 y12 z12 st12 hQ12
  subst l12 y12 z12
  obtain ⟨rfl, N12q, hp12⟩ := hQ12
  have N12 := Fr.app N11 N12q
  have k13 : ∀ t, own_At p e below m T12 14 #[.val (.ref q0), .val (.int (1 : Int32))] [(.ref x1)] t → own_En p e below m s₁ #[(.ref q0), (.int (1 : Int32))] 2 t := by
    intro t k
    refine k00 t ?_
    refine XS.iloadN X00.here hx rfl (hb hby d_jdk_38_method_20_code_0) rfl ?_
    show own_At p e below m s₁ 1 #[.val (.ref q0), .val (.int (1 : Int32))] [(.int (1 : Int32))] t
    refine XS.aloadN X00.here hx rfl (hb hby d_jdk_38_method_20_code_1) rfl rfl ?_
    show own_At p e below m s₁ 2 #[.val (.ref q0), .val (.int (1 : Int32))] [(.ref q0), (.int (1 : Int32))] t
    refine st10 _ ?_
    show own_At p e below m T10 5 #[.val (.ref q0), .val (.int (1 : Int32))] [(.int (3 : Int32)), (.int (1 : Int32))] t
    refine st11 _ ?_
    show own_At p e below m T11 8 #[.val (.ref q0), .val (.int (1 : Int32))] [(.int (1 : Int32))] t
    refine XS.pop X11.here hx rfl (hb hby d_jdk_38_method_20_code_8) rfl rfl ?_
    show own_At p e below m T11 9 #[.val (.ref q0), .val (.int (1 : Int32))] [] t
    refine XS.aloadN X11.here hx rfl (hb hby d_jdk_38_method_20_code_9) rfl rfl ?_
    show own_At p e below m T11 10 #[.val (.ref q0), .val (.int (1 : Int32))] [(.ref q0)] t
    refine XS.iloadN X11.here hx rfl (hb hby d_jdk_38_method_20_code_10) rfl ?_
    show own_At p e below m T11 11 #[.val (.ref q0), .val (.int (1 : Int32))] [(.int (1 : Int32)), (.ref q0)] t
    refine st12.trans ?_
    show own_At p e below m T12 14 #[.val (.ref q0), .val (.int (1 : Int32))] [(.ref x1)] t
    exact k
  obtain ⟨fs, hr, hrun, hended, hW, hsame⟩ := X12.leave (v := some (.ref x1)) (fun h => by rw [Bd.returns] at h; cases h)
  refine hNG ⟨_, _, k13 _ ?_, hrun, hended, _, _, rfl, ?_, ⟨_, rfl⟩, hW, hsame.mono (by decide) (by decide)⟩
  · exact retOut X12 hx (t := (.object "java/lang/Object")) Bd.returns rfl (Or.inr (Or.inr (Or.inr (Or.inr ⟨rfl, rfl, rfl⟩)))) (hb hby d_jdk_38_method_20_code_14) hr
  · show Q_get3_1 Z q0 t0 k0 x0 x1 x2 a_EMPTY_ELEMENTDATA a_DEFAULTCAPACITY_EMPTY_ELEMENTDATA a_cache a_TRUE a_MILLISECONDS a_MILLISECONDS_name a_FALSE cl_cache h0 n0 _ T12.heap _
    rw [hp12]
    exact ⟨rfl, N12, rfl⟩
theorem ef_lgv (m : MethodId) (x0 : Addr)  : entryFrame m #[(.ref x0)] 1 = mkF m 0 #[.val (.ref x0)] [] := by first | (simp [entryFrame, mkF, argsToLocals, Value.category]; done) | rfl
theorem d_jdk_35_method_31_code_0 : decode jdk_35_method_31_code 0 = .ok (.aload_n 0, 1) := by decide +kernel
theorem d_jdk_35_method_31_code_1 : decode jdk_35_method_31_code 1 = .ok (.getfield 273, 3) := by decide +kernel
theorem d_jdk_35_method_31_code_4 : decode jdk_35_method_31_code 4 = .ok (.lreturn, 1) := by decide +kernel
abbrev own_m15 : MethodName := ⟨"java/lang/Long", "longValue", "()J"⟩
def Q_lgv (Z : State) (q0 : Addr) (p0 : Int64) (a_EMPTY_ELEMENTDATA : Addr) (a_DEFAULTCAPACITY_EMPTY_ELEMENTDATA : Addr) (a_cache : Addr) (a_TRUE : Addr) (a_MILLISECONDS : Addr) (a_MILLISECONDS_name : Addr) (a_FALSE : Addr) (cl_cache : Cell) (h0 : Heap) (n0 : Nat) (v : Option Value) (h : Heap) (L : List Loc) : Prop := v = some (.long p0) ∧ Fr n0 L ∧ h = h0
set_option maxRecDepth 65536 in
set_option maxHeartbeats 40000000 in
theorem rm_lgv (l : Launch) (Z : State) (a0 : Array Value) (hw : ∀ d ∈ tables_1, d.before a0 Z = true) (ws : List Jvm.Cond) (q0 : Addr) (p0 : Int64) (a_EMPTY_ELEMENTDATA : Addr) (a_DEFAULTCAPACITY_EMPTY_ELEMENTDATA : Addr) (a_cache : Addr) (a_TRUE : Addr) (a_MILLISECONDS : Addr) (a_MILLISECONDS_name : Addr) (a_FALSE : Addr) (cl_cache : Cell) (h0 : Heap) (n0 : Nat) (O0 : Old Z n0 h0) (hE : EV Z a_EMPTY_ELEMENTDATA a_DEFAULTCAPACITY_EMPTY_ELEMENTDATA a_cache a_TRUE a_MILLISECONDS a_MILLISECONDS_name a_FALSE cl_cache) (P0 : Fld Z h0 q0 "java/lang/Long" "value" "J" (.long p0)) :
    MetFree l own_m15 (head1 (Jvm.Cond.code own_m15 jdk_35_method_31_code 1 (some .long) :: ws) ({ frames := 0, cells := 0, slots := 0, locals := 0 } : Room)) (fun a U => a = #[(.ref q0)] ∧ Z.Warmed39 U.vm ∧ U.heap = h0) (fun _ _ _ _ _ => True) (fun _ U o U' => ∃ v L, o = .returned v ∧ Q_lgv Z q0 p0 a_EMPTY_ELEMENTDATA a_DEFAULTCAPACITY_EMPTY_ELEMENTDATA a_cache a_TRUE a_MILLISECONDS a_MILLISECONDS_name a_FALSE cl_cache h0 n0 v U'.heap L ∧ FrameEnd U o U' L ({ frames := 0, cells := 0, slots := 0, locals := 0 } : Room).cells ({ frames := 0, cells := 0, slots := 0, locals := 0 } : Room).slots) := by
  refine MetFree.of_bodySF (plainFor_of_name pn_java_lang_Long) hisR ?_
  intro p e s m args below meth c s₁ Bd hml0 hP hK
  obtain ⟨rfl, hZ, hh⟩ := hP
  have hx := Bd.exec
  have hby := Bd.bytes
  have hml : c.maxLocals = 1 := hml0
  have hown : s.vm.findClass "java/lang/Long" = some m.cls := findClass_of_methodNamed Bd.named
  have hnm := (name_of_methodNamed Bd.named Bd.method).1
  have X00 : Stand p l e ({ frames := 0, cells := 0, slots := 0, locals := 0 } : Room) s m #[(.ref q0)] below meth c s₁ [] 0 0 := Stand.of_body Bd
  have e00 : s₁.heap = h0 := by rw [← hh, Bd.state]; rfl
  have N00 := Fr.nil n0
  refine Classical.byContradiction fun hNG => ?_
  have K00 := Keep.refl h0 []
  have k00 : ∀ t, own_At p e below m s₁ 0 #[.val (.ref q0)] [] t → own_En p e below m s₁ #[(.ref q0)] 1 t := fun t k => castTop (ef_lgv m q0 ) k
  obtain ⟨S_EMPTY_ELEMENTDATA, E_EMPTY_ELEMENTDATA, S_DEFAULTCAPACITY_EMPTY_ELEMENTDATA, E_DEFAULTCAPACITY_EMPTY_ELEMENTDATA, S_cache, E_cache, S_TRUE, E_TRUE, F_TRUE_value, S_MILLISECONDS, E_MILLISECONDS, F_MILLISECONDS_name, E_MILLISECONDS_name, F_MILLISECONDS_ordinal, F_MILLISECONDS_scale, F_MILLISECONDS_maxNanos, F_MILLISECONDS_microRatio, F_MILLISECONDS_maxMicros, F_MILLISECONDS_milliRatio, F_MILLISECONDS_maxMillis, F_MILLISECONDS_secRatio, F_MILLISECONDS_maxSecs, S_FALSE, E_FALSE, F_FALSE_value, C_EMPTY_ELEMENTDATA, C_DEFAULTCAPACITY_EMPTY_ELEMENTDATA, B_cache⟩ := (id hE : EV Z a_EMPTY_ELEMENTDATA a_DEFAULTCAPACITY_EMPTY_ELEMENTDATA a_cache a_TRUE a_MILLISECONDS a_MILLISECONDS_name a_FALSE cl_cache)
  obtain ⟨k_DEF, A_DEF⟩ := C_DEFAULTCAPACITY_EMPTY_ELEMENTDATA.arv
  obtain ⟨T10, X10, e10, st10⟩ := getF X00 hx hZ hown (host := "") (Or.inl (own_w hw 101 rfl)) Via.refl e00 P0 (g := (mkF m 1 #[.val (.ref q0)] [(.ref q0)])) rfl rfl (hb hby d_jdk_35_method_31_code_1)
  have k11 : ∀ t, own_At p e below m T10 4 #[.val (.ref q0)] [(.long p0)] t → own_En p e below m s₁ #[(.ref q0)] 1 t := by
    intro t k
    refine k00 t ?_
    refine XS.aloadN X00.here hx rfl (hb hby d_jdk_35_method_31_code_0) rfl rfl ?_
    show own_At p e below m s₁ 1 #[.val (.ref q0)] [(.ref q0)] t
    refine st10 _ ?_
    show own_At p e below m T10 4 #[.val (.ref q0)] [(.long p0)] t
    exact k
  obtain ⟨fs, hr, hrun, hended, hW, hsame⟩ := X10.leave (v := some (.long p0)) (fun h => by rw [Bd.returns] at h; cases h)
  refine hNG ⟨_, _, k11 _ ?_, hrun, hended, _, _, rfl, ?_, ⟨_, rfl⟩, hW, hsame.mono (by decide) (by decide)⟩
  · exact retOut X10 hx (t := .long) Bd.returns rfl (Or.inr (Or.inl ⟨rfl, rfl, _, rfl⟩)) (hb hby d_jdk_35_method_31_code_4) hr
  · show Q_lgv Z q0 p0 a_EMPTY_ELEMENTDATA a_DEFAULTCAPACITY_EMPTY_ELEMENTDATA a_cache a_TRUE a_MILLISECONDS a_MILLISECONDS_name a_FALSE cl_cache h0 n0 _ T10.heap _
    rw [e10]
    exact ⟨rfl, N00, rfl⟩
theorem ef_ctor (m : MethodId) (x0 : Addr) (x1 : Int64) (x2 : Int64) (x3 : Addr)  : entryFrame m #[(.ref x0), (.long x1), (.long x2), (.ref x3)] 6 = mkF m 0 #[.val (.ref x0), .val (.long x1), .second, .val (.long x2), .second, .val (.ref x3)] [] := by first | (simp [entryFrame, mkF, argsToLocals, Value.category]; done) | rfl
theorem d_prog_5_method_1_code_0 : decode prog_5_method_1_code 0 = .ok (.aload_n 0, 1) := by decide +kernel
theorem d_prog_5_method_1_code_1 : decode prog_5_method_1_code 1 = .ok (.invokespecial 1, 3) := by decide +kernel
theorem d_prog_5_method_1_code_4 : decode prog_5_method_1_code 4 = .ok (.aload_n 0, 1) := by decide +kernel
theorem d_prog_5_method_1_code_5 : decode prog_5_method_1_code 5 = .ok (.lload_n 1, 1) := by decide +kernel
theorem d_prog_5_method_1_code_6 : decode prog_5_method_1_code 6 = .ok (.putfield 7, 3) := by decide +kernel
theorem d_prog_5_method_1_code_9 : decode prog_5_method_1_code 9 = .ok (.aload_n 0, 1) := by decide +kernel
theorem d_prog_5_method_1_code_10 : decode prog_5_method_1_code 10 = .ok (.lload_n 3, 1) := by decide +kernel
theorem d_prog_5_method_1_code_11 : decode prog_5_method_1_code 11 = .ok (.putfield 13, 3) := by decide +kernel
theorem d_prog_5_method_1_code_14 : decode prog_5_method_1_code 14 = .ok (.aload_n 0, 1) := by decide +kernel
theorem d_prog_5_method_1_code_15 : decode prog_5_method_1_code 15 = .ok (.aload 5, 2) := by decide +kernel
theorem d_prog_5_method_1_code_17 : decode prog_5_method_1_code 17 = .ok (.putfield 16, 3) := by decide +kernel
theorem d_prog_5_method_1_code_20 : decode prog_5_method_1_code 20 = .ok (.return_, 1) := by decide +kernel
theorem pn_com_example_plus1_plus1_Take : plainName "com/example/plus1/plus1/Take" = true := by first | (simp [plainName, overriddenIn]; done) | decide +kernel
abbrev own_m16 : MethodName := ⟨"com/example/plus1/plus1/Take", "<init>", "(JJLjava/lang/Boolean;)V"⟩
def Q_ctor (Z : State) (a1 : Addr) (p2 : Int64) (p4 : Int64) (r6 : Addr) (a_EMPTY_ELEMENTDATA : Addr) (a_DEFAULTCAPACITY_EMPTY_ELEMENTDATA : Addr) (a_cache : Addr) (a_TRUE : Addr) (a_MILLISECONDS : Addr) (a_MILLISECONDS_name : Addr) (a_FALSE : Addr) (cl_cache : Cell) (h0 : Heap) (n0 : Nat) (v : Option Value) (h : Heap) (L : List Loc) : Prop := v = none ∧ Fr n0 L ∧ Old Z n0 h ∧ Keep h0 h [a1] ∧ Exa Z h a1 "com/example/plus1/plus1/Take" ∧ Fld Z h a1 "com/example/plus1/plus1/Take" "holds" "J" (.long p2) ∧ Fld Z h a1 "com/example/plus1/plus1/Take" "retryMillis" "J" (.long p4) ∧ Fld Z h a1 "com/example/plus1/plus1/Take" "heldBefore" "Ljava/lang/Boolean;" (.ref r6)
set_option maxRecDepth 65536 in
set_option maxHeartbeats 40000000 in
theorem rm_ctor (l : Launch) (Z : State) (a0 : Array Value) (hw : ∀ d ∈ tables_1, d.before a0 Z = true) (ws : List Jvm.Cond) (a1 : Addr) (p2 : Int64) (p4 : Int64) (r6 : Addr) (a_EMPTY_ELEMENTDATA : Addr) (a_DEFAULTCAPACITY_EMPTY_ELEMENTDATA : Addr) (a_cache : Addr) (a_TRUE : Addr) (a_MILLISECONDS : Addr) (a_MILLISECONDS_name : Addr) (a_FALSE : Addr) (cl_cache : Cell) (h0 : Heap) (n0 : Nat) (O0 : Old Z n0 h0) (hE : EV Z a_EMPTY_ELEMENTDATA a_DEFAULTCAPACITY_EMPTY_ELEMENTDATA a_cache a_TRUE a_MILLISECONDS a_MILLISECONDS_name a_FALSE cl_cache) (F_holds : Fld Z h0 a1 "com/example/plus1/plus1/Take" "holds" "J" (.long (0 : Int64))) (F_retryMillis : Fld Z h0 a1 "com/example/plus1/plus1/Take" "retryMillis" "J" (.long (0 : Int64))) (F_heldBefore : Fld Z h0 a1 "com/example/plus1/plus1/Take" "heldBefore" "Ljava/lang/Boolean;" .null) (E_a1 : Exa Z h0 a1 "com/example/plus1/plus1/Take") (g_a1 : n0 ≤ a1) :
    MetFree l own_m16 (head1 (Jvm.Cond.code own_m16 prog_5_method_1_code 6 none :: ws) ({ frames := 1, cells := 0, slots := 0, locals := 12 } : Room)) (fun a U => a = #[(.ref a1), (.long p2), (.long p4), (.ref r6)] ∧ Z.Warmed39 U.vm ∧ U.heap = h0) (fun _ _ _ _ _ => True) (fun _ U o U' => ∃ v L, o = .returned v ∧ Q_ctor Z a1 p2 p4 r6 a_EMPTY_ELEMENTDATA a_DEFAULTCAPACITY_EMPTY_ELEMENTDATA a_cache a_TRUE a_MILLISECONDS a_MILLISECONDS_name a_FALSE cl_cache h0 n0 v U'.heap L ∧ FrameEnd U o U' L ({ frames := 1, cells := 0, slots := 0, locals := 12 } : Room).cells ({ frames := 1, cells := 0, slots := 0, locals := 12 } : Room).slots) := by
  refine MetFree.of_bodySF (plainFor_of_name pn_com_example_plus1_plus1_Take) hisR ?_
  intro p e s m args below meth c s₁ Bd hml0 hP hK
  obtain ⟨rfl, hZ, hh⟩ := hP
  have hx := Bd.exec
  have hby := Bd.bytes
  have hml : c.maxLocals = 6 := hml0
  have hown : s.vm.findClass "com/example/plus1/plus1/Take" = some m.cls := findClass_of_methodNamed Bd.named
  have hnm := (name_of_methodNamed Bd.named Bd.method).1
  have X00 : Stand p l e ({ frames := 1, cells := 0, slots := 0, locals := 12 } : Room) s m #[(.ref a1), (.long p2), (.long p4), (.ref r6)] below meth c s₁ [] 0 0 := Stand.of_body Bd
  have e00 : s₁.heap = h0 := by rw [← hh, Bd.state]; rfl
  have N00 := Fr.nil n0
  refine Classical.byContradiction fun hNG => ?_
  have K00 := Keep.refl h0 [a1]
  have k00 : ∀ t, own_At p e below m s₁ 0 #[.val (.ref a1), .val (.long p2), .second, .val (.long p4), .second, .val (.ref r6)] [] t → own_En p e below m s₁ #[(.ref a1), (.long p2), (.long p4), (.ref r6)] 6 t := fun t k => castTop (ef_ctor m a1 p2 p4 r6 ) k
  obtain ⟨S_EMPTY_ELEMENTDATA, E_EMPTY_ELEMENTDATA, S_DEFAULTCAPACITY_EMPTY_ELEMENTDATA, E_DEFAULTCAPACITY_EMPTY_ELEMENTDATA, S_cache, E_cache, S_TRUE, E_TRUE, F_TRUE_value, S_MILLISECONDS, E_MILLISECONDS, F_MILLISECONDS_name, E_MILLISECONDS_name, F_MILLISECONDS_ordinal, F_MILLISECONDS_scale, F_MILLISECONDS_maxNanos, F_MILLISECONDS_microRatio, F_MILLISECONDS_maxMicros, F_MILLISECONDS_milliRatio, F_MILLISECONDS_maxMillis, F_MILLISECONDS_secRatio, F_MILLISECONDS_maxSecs, S_FALSE, E_FALSE, F_FALSE_value, C_EMPTY_ELEMENTDATA, C_DEFAULTCAPACITY_EMPTY_ELEMENTDATA, B_cache⟩ := (id hE : EV Z a_EMPTY_ELEMENTDATA a_DEFAULTCAPACITY_EMPTY_ELEMENTDATA a_cache a_TRUE a_MILLISECONDS a_MILLISECONDS_name a_FALSE cl_cache)
  obtain ⟨k_DEF, A_DEF⟩ := C_DEFAULTCAPACITY_EMPTY_ELEMENTDATA.arv
  obtain ⟨T10, X10, e10, st10⟩ := initO X00 hx hZ hown (own_w hw 116 rfl) (own_w hw 19 rfl) (own_w hw 20 rfl) e00 (g := (mkF m 1 #[.val (.ref a1), .val (.long p2), .second, .val (.long p4), .second, .val (.ref r6)] [(.ref a1)])) rfl (by rw [hml]; rfl) rfl (hb hby d_prog_5_method_1_code_1) (by decide) (W := 0) (by show 2 * 0 + _ ≤ _; exact Nat.le_of_eq rfl) (by decide)
  obtain ⟨T11, h11, X11, e11, W11, st11⟩ := putF X10 hx hZ hown (host := "") (Or.inl (own_w hw 117 rfl)) Via.refl e10 F_holds E_a1 (Or.inr ⟨(own_w hw 118 rfl), rfl, hnm⟩) (own_w hw 107 rfl) (ty := .long) (by decide) rfl rfl (g := (mkF m 6 #[.val (.ref a1), .val (.long p2), .second, .val (.long p4), .second, .val (.ref r6)] [(.long p2), (.ref a1)])) rfl rfl (hb hby d_prog_5_method_1_code_6)
  have F11_holds := F_holds.same W11
  have N11 := Fr.snoc X11 N00 g_a1
  have O11 := O0.wr W11 g_a1
  have K11 := K00.wr W11 (Or.inl (List.mem_of_getElem? (i := 0) rfl))
  have f12 := (E_a1.wr W11)
  have f13 := (F_retryMillis.other W11 (Or.inr (slot_ne (Or.inr (own_w hw 120 rfl)) (Or.inr (own_w hw 118 rfl)) (by decide) (t := .long) (t' := .long) (by decide) (by decide))))
  obtain ⟨T14, h14, X14, e14, W14, st14⟩ := putF X11 hx hZ hown (host := "") (Or.inl (own_w hw 119 rfl)) Via.refl e11 f13 f12 (Or.inr ⟨(own_w hw 120 rfl), rfl, hnm⟩) (own_w hw 107 rfl) (ty := .long) (by decide) rfl rfl (g := (mkF m 11 #[.val (.ref a1), .val (.long p2), .second, .val (.long p4), .second, .val (.ref r6)] [(.long p4), (.ref a1)])) rfl rfl (hb hby d_prog_5_method_1_code_11)
  have F14_retryMillis := f13.same W14
  have N14 := Fr.snoc X14 N11 g_a1
  have O14 := O11.wr W14 g_a1
  have K14 := K11.wr W14 (Or.inl (List.mem_of_getElem? (i := 0) rfl))
  have f15 := (f12.wr W14)
  have f16 := ((F_heldBefore.other W11 (Or.inr (slot_ne (Or.inr (own_w hw 122 rfl)) (Or.inr (own_w hw 118 rfl)) (by decide) (t := (.object "java/lang/Boolean")) (t' := .long) (by decide) (by decide)))).other W14 (Or.inr (slot_ne (Or.inr (own_w hw 122 rfl)) (Or.inr (own_w hw 120 rfl)) (by decide) (t := (.object "java/lang/Boolean")) (t' := .long) (by decide) (by decide))))
  obtain ⟨T17, h17, X17, e17, W17, st17⟩ := putF X14 hx hZ hown (host := "") (Or.inl (own_w hw 121 rfl)) Via.refl e14 f16 f15 (Or.inr ⟨(own_w hw 122 rfl), rfl, hnm⟩) (own_w hw 107 rfl) (ty := (.object "java/lang/Boolean")) (by decide) rfl rfl (g := (mkF m 17 #[.val (.ref a1), .val (.long p2), .second, .val (.long p4), .second, .val (.ref r6)] [(.ref r6), (.ref a1)])) rfl rfl (hb hby d_prog_5_method_1_code_17)
  have F17_heldBefore := f16.same W17
  have N17 := Fr.snoc X17 N14 g_a1
  have O17 := O14.wr W17 g_a1
  have K17 := K14.wr W17 (Or.inl (List.mem_of_getElem? (i := 0) rfl))
  have k18 : ∀ t, own_At p e below m T17 20 #[.val (.ref a1), .val (.long p2), .second, .val (.long p4), .second, .val (.ref r6)] [] t → own_En p e below m s₁ #[(.ref a1), (.long p2), (.long p4), (.ref r6)] 6 t := by
    intro t k
    refine k00 t ?_
    refine XS.aloadN X00.here hx rfl (hb hby d_prog_5_method_1_code_0) rfl rfl ?_
    show own_At p e below m s₁ 1 #[.val (.ref a1), .val (.long p2), .second, .val (.long p4), .second, .val (.ref r6)] [(.ref a1)] t
    refine st10 _ ?_
    show own_At p e below m T10 4 #[.val (.ref a1), .val (.long p2), .second, .val (.long p4), .second, .val (.ref r6)] [] t
    refine XS.aloadN X10.here hx rfl (hb hby d_prog_5_method_1_code_4) rfl rfl ?_
    show own_At p e below m T10 5 #[.val (.ref a1), .val (.long p2), .second, .val (.long p4), .second, .val (.ref r6)] [(.ref a1)] t
    refine XS.lloadN X10.here hx rfl (hb hby d_prog_5_method_1_code_5) rfl ?_
    show own_At p e below m T10 6 #[.val (.ref a1), .val (.long p2), .second, .val (.long p4), .second, .val (.ref r6)] [(.long p2), (.ref a1)] t
    refine st11 _ ?_
    show own_At p e below m T11 9 #[.val (.ref a1), .val (.long p2), .second, .val (.long p4), .second, .val (.ref r6)] [] t
    refine XS.aloadN X11.here hx rfl (hb hby d_prog_5_method_1_code_9) rfl rfl ?_
    show own_At p e below m T11 10 #[.val (.ref a1), .val (.long p2), .second, .val (.long p4), .second, .val (.ref r6)] [(.ref a1)] t
    refine XS.lloadN X11.here hx rfl (hb hby d_prog_5_method_1_code_10) rfl ?_
    show own_At p e below m T11 11 #[.val (.ref a1), .val (.long p2), .second, .val (.long p4), .second, .val (.ref r6)] [(.long p4), (.ref a1)] t
    refine st14 _ ?_
    show own_At p e below m T14 14 #[.val (.ref a1), .val (.long p2), .second, .val (.long p4), .second, .val (.ref r6)] [] t
    refine XS.aloadN X14.here hx rfl (hb hby d_prog_5_method_1_code_14) rfl rfl ?_
    show own_At p e below m T14 15 #[.val (.ref a1), .val (.long p2), .second, .val (.long p4), .second, .val (.ref r6)] [(.ref a1)] t
    refine XS.aload X14.here hx rfl (hb hby d_prog_5_method_1_code_15) rfl rfl ?_
    show own_At p e below m T14 17 #[.val (.ref a1), .val (.long p2), .second, .val (.long p4), .second, .val (.ref r6)] [(.ref r6), (.ref a1)] t
    refine st17 _ ?_
    show own_At p e below m T17 20 #[.val (.ref a1), .val (.long p2), .second, .val (.long p4), .second, .val (.ref r6)] [] t
    exact k
  have f19 := ((F11_holds.other W14 (Or.inr (slot_ne (Or.inr (own_w hw 118 rfl)) (Or.inr (own_w hw 120 rfl)) (by decide) (t := .long) (t' := .long) (by decide) (by decide)))).other W17 (Or.inr (slot_ne (Or.inr (own_w hw 118 rfl)) (Or.inr (own_w hw 122 rfl)) (by decide) (t := .long) (t' := (.object "java/lang/Boolean")) (by decide) (by decide))))
  have f20 := (F14_retryMillis.other W17 (Or.inr (slot_ne (Or.inr (own_w hw 120 rfl)) (Or.inr (own_w hw 122 rfl)) (by decide) (t := .long) (t' := (.object "java/lang/Boolean")) (by decide) (by decide))))
  have f21 := (f15.wr W17)
  obtain ⟨fs, hr, hrun, hended, hW, hsame⟩ := X17.leave (v := none) (fun _ => rfl)
  refine hNG ⟨_, _, k18 _ ?_, hrun, hended, _, _, rfl, ?_, ⟨_, rfl⟩, hW, hsame.mono (by decide) (by decide)⟩
  · exact X17.returnOut hx Bd.returns (hb hby d_prog_5_method_1_code_20) hr
  · show Q_ctor Z a1 p2 p4 r6 a_EMPTY_ELEMENTDATA a_DEFAULTCAPACITY_EMPTY_ELEMENTDATA a_cache a_TRUE a_MILLISECONDS a_MILLISECONDS_name a_FALSE cl_cache h0 n0 _ T17.heap _
    rw [e17]
    exact ⟨rfl, N17, O17, K17, f21, f19, f20, F17_heldBefore⟩
def own_held (p0 : Int64) (aT aF : Addr) : Addr := if (0 : Int32) < (lcmpW p0 (1 : Int64)) then aT else aF
theorem ef_of (m : MethodId) (x0 : Int64) (x1 : Int64)  : entryFrame m #[(.long x0), (.long x1)] 4 = mkF m 0 #[.val (.long x0), .second, .val (.long x1), .second] [] := by first | (simp [entryFrame, mkF, argsToLocals, Value.category]; done) | rfl
theorem d_prog_5_method_3_code_0 : decode prog_5_method_3_code 0 = .ok (.new 8, 3) := by decide +kernel
theorem d_prog_5_method_3_code_3 : decode prog_5_method_3_code 3 = .ok (.dup, 1) := by decide +kernel
theorem d_prog_5_method_3_code_4 : decode prog_5_method_3_code 4 = .ok (.lload_n 0, 1) := by decide +kernel
theorem d_prog_5_method_3_code_5 : decode prog_5_method_3_code 5 = .ok (.lload_n 2, 1) := by decide +kernel
theorem d_prog_5_method_3_code_6 : decode prog_5_method_3_code 6 = .ok (.lload_n 0, 1) := by decide +kernel
theorem d_prog_5_method_3_code_7 : decode prog_5_method_3_code 7 = .ok (.lconst 1, 1) := by decide +kernel
theorem d_prog_5_method_3_code_8 : decode prog_5_method_3_code 8 = .ok (.lcmp, 1) := by decide +kernel
theorem d_prog_5_method_3_code_9 : decode prog_5_method_3_code 9 = .ok (.ifCond .le 7, 3) := by decide +kernel
theorem d_prog_5_method_3_code_12 : decode prog_5_method_3_code 12 = .ok (.iconst 1, 1) := by decide +kernel
theorem d_prog_5_method_3_code_13 : decode prog_5_method_3_code 13 = .ok (.goto 4, 3) := by decide +kernel
theorem d_prog_5_method_3_code_17 : decode prog_5_method_3_code 17 = .ok (.invokestatic 36, 3) := by decide +kernel
theorem ef_f12 (m : MethodId) (x0 : Int32)  : entryFrame m #[(.int x0)] 1 = mkF m 0 #[.val (.int x0)] [] := by first | (simp [entryFrame, mkF, argsToLocals, Value.category]; done) | rfl
theorem d_jdk_2055_method_5_code_0 : decode jdk_2055_method_5_code 0 = .ok (.iload_n 0, 1) := by decide +kernel
theorem d_jdk_2055_method_5_code_1 : decode jdk_2055_method_5_code 1 = .ok (.ifCond .eq 9, 3) := by decide +kernel
theorem d_jdk_2055_method_5_code_4 : decode jdk_2055_method_5_code 4 = .ok (.getstatic 27, 3) := by decide +kernel
theorem d_jdk_2055_method_5_code_7 : decode jdk_2055_method_5_code 7 = .ok (.goto 6, 3) := by decide +kernel
theorem d_jdk_2055_method_5_code_13 : decode jdk_2055_method_5_code 13 = .ok (.areturn, 1) := by decide +kernel
theorem pn_java_lang_Boolean : plainName "java/lang/Boolean" = true := by first | (simp [plainName, overriddenIn]; done) | decide +kernel
abbrev own_m17 : MethodName := ⟨"java/lang/Boolean", "valueOf", "(Z)Ljava/lang/Boolean;"⟩
def Q_f12 (Z : State) (a_EMPTY_ELEMENTDATA : Addr) (a_DEFAULTCAPACITY_EMPTY_ELEMENTDATA : Addr) (a_cache : Addr) (a_TRUE : Addr) (a_MILLISECONDS : Addr) (a_MILLISECONDS_name : Addr) (a_FALSE : Addr) (cl_cache : Cell) (h0 : Heap) (n0 : Nat) (v : Option Value) (h : Heap) (L : List Loc) : Prop := v = some (.ref a_TRUE) ∧ Fr n0 L ∧ h = h0
set_option maxRecDepth 65536 in
set_option maxHeartbeats 40000000 in
theorem rm_f12 (l : Launch) (Z : State) (a0 : Array Value) (hw : ∀ d ∈ tables_1, d.before a0 Z = true) (ws : List Jvm.Cond) (a_EMPTY_ELEMENTDATA : Addr) (a_DEFAULTCAPACITY_EMPTY_ELEMENTDATA : Addr) (a_cache : Addr) (a_TRUE : Addr) (a_MILLISECONDS : Addr) (a_MILLISECONDS_name : Addr) (a_FALSE : Addr) (cl_cache : Cell) (h0 : Heap) (n0 : Nat) (O0 : Old Z n0 h0) (hE : EV Z a_EMPTY_ELEMENTDATA a_DEFAULTCAPACITY_EMPTY_ELEMENTDATA a_cache a_TRUE a_MILLISECONDS a_MILLISECONDS_name a_FALSE cl_cache) :
    MetFree l own_m17 (head1 (Jvm.Cond.code own_m17 jdk_2055_method_5_code 1 (some (.object "java/lang/Boolean")) :: ws) ({ frames := 0, cells := 0, slots := 0, locals := 0 } : Room)) (fun a U => a = #[(.int (1 : Int32))] ∧ Z.Warmed39 U.vm ∧ U.heap = h0) (fun _ _ _ _ _ => True) (fun _ U o U' => ∃ v L, o = .returned v ∧ Q_f12 Z a_EMPTY_ELEMENTDATA a_DEFAULTCAPACITY_EMPTY_ELEMENTDATA a_cache a_TRUE a_MILLISECONDS a_MILLISECONDS_name a_FALSE cl_cache h0 n0 v U'.heap L ∧ FrameEnd U o U' L ({ frames := 0, cells := 0, slots := 0, locals := 0 } : Room).cells ({ frames := 0, cells := 0, slots := 0, locals := 0 } : Room).slots) := by
  refine MetFree.of_bodySF (plainFor_of_name pn_java_lang_Boolean) hisR ?_
  intro p e s m args below meth c s₁ Bd hml0 hP hK
  obtain ⟨rfl, hZ, hh⟩ := hP
  have hx := Bd.exec
  have hby := Bd.bytes
  have hml : c.maxLocals = 1 := hml0
  have hown : s.vm.findClass "java/lang/Boolean" = some m.cls := findClass_of_methodNamed Bd.named
  have hnm := (name_of_methodNamed Bd.named Bd.method).1
  have X00 : Stand p l e ({ frames := 0, cells := 0, slots := 0, locals := 0 } : Room) s m #[(.int (1 : Int32))] below meth c s₁ [] 0 0 := Stand.of_body Bd
  have e00 : s₁.heap = h0 := by rw [← hh, Bd.state]; rfl
  have N00 := Fr.nil n0
  refine Classical.byContradiction fun hNG => ?_
  have K00 := Keep.refl h0 []
  have k00 : ∀ t, own_At p e below m s₁ 0 #[.val (.int (1 : Int32))] [] t → own_En p e below m s₁ #[(.int (1 : Int32))] 1 t := fun t k => castTop (ef_f12 m ((1 : Int32)) ) k
  obtain ⟨S_EMPTY_ELEMENTDATA, E_EMPTY_ELEMENTDATA, S_DEFAULTCAPACITY_EMPTY_ELEMENTDATA, E_DEFAULTCAPACITY_EMPTY_ELEMENTDATA, S_cache, E_cache, S_TRUE, E_TRUE, F_TRUE_value, S_MILLISECONDS, E_MILLISECONDS, F_MILLISECONDS_name, E_MILLISECONDS_name, F_MILLISECONDS_ordinal, F_MILLISECONDS_scale, F_MILLISECONDS_maxNanos, F_MILLISECONDS_microRatio, F_MILLISECONDS_maxMicros, F_MILLISECONDS_milliRatio, F_MILLISECONDS_maxMillis, F_MILLISECONDS_secRatio, F_MILLISECONDS_maxSecs, S_FALSE, E_FALSE, F_FALSE_value, C_EMPTY_ELEMENTDATA, C_DEFAULTCAPACITY_EMPTY_ELEMENTDATA, B_cache⟩ := (id hE : EV Z a_EMPTY_ELEMENTDATA a_DEFAULTCAPACITY_EMPTY_ELEMENTDATA a_cache a_TRUE a_MILLISECONDS a_MILLISECONDS_name a_FALSE cl_cache)
  obtain ⟨k_DEF, A_DEF⟩ := C_DEFAULTCAPACITY_EMPTY_ELEMENTDATA.arv
  obtain ⟨T10, X10, e10, st10⟩ := getS2 X00 hx hZ hown (host := "") (Or.inl (own_w hw 112 rfl)) Via.refl e00 (S_TRUE.ext O0.2) (g := (mkF m 4 #[.val (.int (1 : Int32))] [])) rfl (hb hby d_jdk_2055_method_5_code_4)
  have k11 : ∀ t, own_At p e below m T10 13 #[.val (.int (1 : Int32))] [(.ref a_TRUE)] t → own_En p e below m s₁ #[(.int (1 : Int32))] 1 t := by
    intro t k
    refine k00 t ?_
    refine XS.iloadN X00.here hx rfl (hb hby d_jdk_2055_method_5_code_0) rfl ?_
    show own_At p e below m s₁ 1 #[.val (.int (1 : Int32))] [(.int (1 : Int32))] t
    refine XS.ifNo X00.here hx rfl (hb hby d_jdk_2055_method_5_code_1) rfl ((if0 _ _).trans (feq (by decide : ¬ ((1 : Int32) = (0 : Int32)))).1) ?_
    show own_At p e below m s₁ 4 #[.val (.int (1 : Int32))] [] t
    refine st10 _ ?_
    show own_At p e below m T10 7 #[.val (.int (1 : Int32))] [(.ref a_TRUE)] t
    refine XS.goto X10.here hx rfl (pc0 := 7) (pc' := 13) rfl (hb hby d_jdk_2055_method_5_code_7) (by decide) (by decide) ?_
    show own_At p e below m T10 13 #[.val (.int (1 : Int32))] [(.ref a_TRUE)] t
    exact k
  obtain ⟨fs, hr, hrun, hended, hW, hsame⟩ := X10.leave (v := some (.ref a_TRUE)) (fun h => by rw [Bd.returns] at h; cases h)
  refine hNG ⟨_, _, k11 _ ?_, hrun, hended, _, _, rfl, ?_, ⟨_, rfl⟩, hW, hsame.mono (by decide) (by decide)⟩
  · exact retOut X10 hx (t := (.object "java/lang/Boolean")) Bd.returns rfl (Or.inr (Or.inr (Or.inr (Or.inr ⟨rfl, rfl, rfl⟩)))) (hb hby d_jdk_2055_method_5_code_13) hr
  · show Q_f12 Z a_EMPTY_ELEMENTDATA a_DEFAULTCAPACITY_EMPTY_ELEMENTDATA a_cache a_TRUE a_MILLISECONDS a_MILLISECONDS_name a_FALSE cl_cache h0 n0 _ T10.heap _
    rw [e10]
    exact ⟨rfl, N00, rfl⟩
theorem pd__Z_Ljava_lang_Boolean_ : parseMethodDescriptor "(Z)Ljava/lang/Boolean;" = some ⟨[.boolean], some (.object "java/lang/Boolean")⟩ := by decide +kernel
theorem d_prog_5_method_3_code_20 : decode prog_5_method_3_code 20 = .ok (.invokespecial 42, 3) := by decide +kernel
theorem pd__JJLjava_lang_Boolean__V : parseMethodDescriptor "(JJLjava/lang/Boolean;)V" = some ⟨[.long, .long, (.object "java/lang/Boolean")], none⟩ := by decide +kernel
theorem d_prog_5_method_3_code_23 : decode prog_5_method_3_code 23 = .ok (.areturn, 1) := by decide +kernel
theorem d_prog_5_method_3_code_16 : decode prog_5_method_3_code 16 = .ok (.iconst 0, 1) := by decide +kernel
theorem ef_f13 (m : MethodId) (x0 : Int32)  : entryFrame m #[(.int x0)] 1 = mkF m 0 #[.val (.int x0)] [] := by first | (simp [entryFrame, mkF, argsToLocals, Value.category]; done) | rfl
theorem d_jdk_2055_method_5_code_10 : decode jdk_2055_method_5_code 10 = .ok (.getstatic 31, 3) := by decide +kernel
def Q_f13 (Z : State) (a_EMPTY_ELEMENTDATA : Addr) (a_DEFAULTCAPACITY_EMPTY_ELEMENTDATA : Addr) (a_cache : Addr) (a_TRUE : Addr) (a_MILLISECONDS : Addr) (a_MILLISECONDS_name : Addr) (a_FALSE : Addr) (cl_cache : Cell) (h0 : Heap) (n0 : Nat) (v : Option Value) (h : Heap) (L : List Loc) : Prop := v = some (.ref a_FALSE) ∧ Fr n0 L ∧ h = h0
set_option maxRecDepth 65536 in
set_option maxHeartbeats 40000000 in
theorem rm_f13 (l : Launch) (Z : State) (a0 : Array Value) (hw : ∀ d ∈ tables_1, d.before a0 Z = true) (ws : List Jvm.Cond) (a_EMPTY_ELEMENTDATA : Addr) (a_DEFAULTCAPACITY_EMPTY_ELEMENTDATA : Addr) (a_cache : Addr) (a_TRUE : Addr) (a_MILLISECONDS : Addr) (a_MILLISECONDS_name : Addr) (a_FALSE : Addr) (cl_cache : Cell) (h0 : Heap) (n0 : Nat) (O0 : Old Z n0 h0) (hE : EV Z a_EMPTY_ELEMENTDATA a_DEFAULTCAPACITY_EMPTY_ELEMENTDATA a_cache a_TRUE a_MILLISECONDS a_MILLISECONDS_name a_FALSE cl_cache) :
    MetFree l own_m17 (head1 (Jvm.Cond.code own_m17 jdk_2055_method_5_code 1 (some (.object "java/lang/Boolean")) :: ws) ({ frames := 0, cells := 0, slots := 0, locals := 0 } : Room)) (fun a U => a = #[(.int (0 : Int32))] ∧ Z.Warmed39 U.vm ∧ U.heap = h0) (fun _ _ _ _ _ => True) (fun _ U o U' => ∃ v L, o = .returned v ∧ Q_f13 Z a_EMPTY_ELEMENTDATA a_DEFAULTCAPACITY_EMPTY_ELEMENTDATA a_cache a_TRUE a_MILLISECONDS a_MILLISECONDS_name a_FALSE cl_cache h0 n0 v U'.heap L ∧ FrameEnd U o U' L ({ frames := 0, cells := 0, slots := 0, locals := 0 } : Room).cells ({ frames := 0, cells := 0, slots := 0, locals := 0 } : Room).slots) := by
  refine MetFree.of_bodySF (plainFor_of_name pn_java_lang_Boolean) hisR ?_
  intro p e s m args below meth c s₁ Bd hml0 hP hK
  obtain ⟨rfl, hZ, hh⟩ := hP
  have hx := Bd.exec
  have hby := Bd.bytes
  have hml : c.maxLocals = 1 := hml0
  have hown : s.vm.findClass "java/lang/Boolean" = some m.cls := findClass_of_methodNamed Bd.named
  have hnm := (name_of_methodNamed Bd.named Bd.method).1
  have X00 : Stand p l e ({ frames := 0, cells := 0, slots := 0, locals := 0 } : Room) s m #[(.int (0 : Int32))] below meth c s₁ [] 0 0 := Stand.of_body Bd
  have e00 : s₁.heap = h0 := by rw [← hh, Bd.state]; rfl
  have N00 := Fr.nil n0
  refine Classical.byContradiction fun hNG => ?_
  have K00 := Keep.refl h0 []
  have k00 : ∀ t, own_At p e below m s₁ 0 #[.val (.int (0 : Int32))] [] t → own_En p e below m s₁ #[(.int (0 : Int32))] 1 t := fun t k => castTop (ef_f13 m ((0 : Int32)) ) k
  obtain ⟨S_EMPTY_ELEMENTDATA, E_EMPTY_ELEMENTDATA, S_DEFAULTCAPACITY_EMPTY_ELEMENTDATA, E_DEFAULTCAPACITY_EMPTY_ELEMENTDATA, S_cache, E_cache, S_TRUE, E_TRUE, F_TRUE_value, S_MILLISECONDS, E_MILLISECONDS, F_MILLISECONDS_name, E_MILLISECONDS_name, F_MILLISECONDS_ordinal, F_MILLISECONDS_scale, F_MILLISECONDS_maxNanos, F_MILLISECONDS_microRatio, F_MILLISECONDS_maxMicros, F_MILLISECONDS_milliRatio, F_MILLISECONDS_maxMillis, F_MILLISECONDS_secRatio, F_MILLISECONDS_maxSecs, S_FALSE, E_FALSE, F_FALSE_value, C_EMPTY_ELEMENTDATA, C_DEFAULTCAPACITY_EMPTY_ELEMENTDATA, B_cache⟩ := (id hE : EV Z a_EMPTY_ELEMENTDATA a_DEFAULTCAPACITY_EMPTY_ELEMENTDATA a_cache a_TRUE a_MILLISECONDS a_MILLISECONDS_name a_FALSE cl_cache)
  obtain ⟨k_DEF, A_DEF⟩ := C_DEFAULTCAPACITY_EMPTY_ELEMENTDATA.arv
  obtain ⟨T10, X10, e10, st10⟩ := getS2 X00 hx hZ hown (host := "") (Or.inl (own_w hw 182 rfl)) Via.refl e00 (S_FALSE.ext O0.2) (g := (mkF m 10 #[.val (.int (0 : Int32))] [])) rfl (hb hby d_jdk_2055_method_5_code_10)
  have k11 : ∀ t, own_At p e below m T10 13 #[.val (.int (0 : Int32))] [(.ref a_FALSE)] t → own_En p e below m s₁ #[(.int (0 : Int32))] 1 t := by
    intro t k
    refine k00 t ?_
    refine XS.iloadN X00.here hx rfl (hb hby d_jdk_2055_method_5_code_0) rfl ?_
    show own_At p e below m s₁ 1 #[.val (.int (0 : Int32))] [(.int (0 : Int32))] t
    refine XS.ifYes X00.here hx rfl (pc0 := 1) (pc' := 10) rfl (hb hby d_jdk_2055_method_5_code_1) rfl ((if0 _ _).trans (teq (by decide : (0 : Int32) = (0 : Int32))).1) (by decide) (by decide) ?_
    show own_At p e below m s₁ 10 #[.val (.int (0 : Int32))] [] t
    refine st10 _ ?_
    show own_At p e below m T10 13 #[.val (.int (0 : Int32))] [(.ref a_FALSE)] t
    exact k
  obtain ⟨fs, hr, hrun, hended, hW, hsame⟩ := X10.leave (v := some (.ref a_FALSE)) (fun h => by rw [Bd.returns] at h; cases h)
  refine hNG ⟨_, _, k11 _ ?_, hrun, hended, _, _, rfl, ?_, ⟨_, rfl⟩, hW, hsame.mono (by decide) (by decide)⟩
  · exact retOut X10 hx (t := (.object "java/lang/Boolean")) Bd.returns rfl (Or.inr (Or.inr (Or.inr (Or.inr ⟨rfl, rfl, rfl⟩)))) (hb hby d_jdk_2055_method_5_code_13) hr
  · show Q_f13 Z a_EMPTY_ELEMENTDATA a_DEFAULTCAPACITY_EMPTY_ELEMENTDATA a_cache a_TRUE a_MILLISECONDS a_MILLISECONDS_name a_FALSE cl_cache h0 n0 _ T10.heap _
    rw [e10]
    exact ⟨rfl, N00, rfl⟩
abbrev own_m18 : MethodName := ⟨"com/example/plus1/plus1/Take", "of", "(JJ)Lcom/example/plus1/plus1/Take;"⟩
def Q_of (Z : State) (p0 : Int64) (p1 : Int64) (a_EMPTY_ELEMENTDATA : Addr) (a_DEFAULTCAPACITY_EMPTY_ELEMENTDATA : Addr) (a_cache : Addr) (a_TRUE : Addr) (a_MILLISECONDS : Addr) (a_MILLISECONDS_name : Addr) (a_FALSE : Addr) (cl_cache : Cell) (h0 : Heap) (n0 : Nat) (v : Option Value) (h : Heap) (L : List Loc) : Prop := ∃ (b : Addr), v = some (.ref b) ∧ Fr n0 L ∧ Old Z n0 h ∧ Keep h0 h [] ∧ n0 ≤ b ∧ h0.size ≤ b ∧ Exa Z h b "com/example/plus1/plus1/Take" ∧ Fld Z h b "com/example/plus1/plus1/Take" "holds" "J" (.long p0) ∧ Fld Z h b "com/example/plus1/plus1/Take" "retryMillis" "J" (.long p1) ∧ Fld Z h b "com/example/plus1/plus1/Take" "heldBefore" "Ljava/lang/Boolean;" (.ref (own_held p0 a_TRUE a_FALSE))
set_option maxRecDepth 65536 in
set_option maxHeartbeats 40000000 in
theorem rm_of (l : Launch) (Z : State) (a0 : Array Value) (hw : ∀ d ∈ tables_1, d.before a0 Z = true) (ws : List Jvm.Cond) (p0 : Int64) (p1 : Int64) (a_EMPTY_ELEMENTDATA : Addr) (a_DEFAULTCAPACITY_EMPTY_ELEMENTDATA : Addr) (a_cache : Addr) (a_TRUE : Addr) (a_MILLISECONDS : Addr) (a_MILLISECONDS_name : Addr) (a_FALSE : Addr) (cl_cache : Cell) (h0 : Heap) (n0 : Nat) (O0 : Old Z n0 h0) (hE : EV Z a_EMPTY_ELEMENTDATA a_DEFAULTCAPACITY_EMPTY_ELEMENTDATA a_cache a_TRUE a_MILLISECONDS a_MILLISECONDS_name a_FALSE cl_cache) :
    MetFree l own_m18 (head1 (Jvm.Cond.code own_m18 prog_5_method_3_code 4 (some (.object "com/example/plus1/plus1/Take")) :: ws) ({ frames := 2, cells := 1, slots := 3, locals := 30 } : Room)) (fun a U => a = #[(.long p0), (.long p1)] ∧ Z.Warmed39 U.vm ∧ U.heap = h0) (fun _ _ _ _ _ => True) (fun _ U o U' => ∃ v L, o = .returned v ∧ Q_of Z p0 p1 a_EMPTY_ELEMENTDATA a_DEFAULTCAPACITY_EMPTY_ELEMENTDATA a_cache a_TRUE a_MILLISECONDS a_MILLISECONDS_name a_FALSE cl_cache h0 n0 v U'.heap L ∧ FrameEnd U o U' L ({ frames := 2, cells := 1, slots := 3, locals := 30 } : Room).cells ({ frames := 2, cells := 1, slots := 3, locals := 30 } : Room).slots) := by
  refine MetFree.of_bodySF (plainFor_of_name pn_com_example_plus1_plus1_Take) hisR ?_
  intro p e s m args below meth c s₁ Bd hml0 hP hK
  obtain ⟨rfl, hZ, hh⟩ := hP
  have hx := Bd.exec
  have hby := Bd.bytes
  have hml : c.maxLocals = 4 := hml0
  have hown : s.vm.findClass "com/example/plus1/plus1/Take" = some m.cls := findClass_of_methodNamed Bd.named
  have hnm := (name_of_methodNamed Bd.named Bd.method).1
  have X00 : Stand p l e ({ frames := 2, cells := 1, slots := 3, locals := 30 } : Room) s m #[(.long p0), (.long p1)] below meth c s₁ [] 0 0 := Stand.of_body Bd
  have e00 : s₁.heap = h0 := by rw [← hh, Bd.state]; rfl
  have N00 := Fr.nil n0
  refine Classical.byContradiction fun hNG => ?_
  have K00 := Keep.refl h0 []
  have k00 : ∀ t, own_At p e below m s₁ 0 #[.val (.long p0), .second, .val (.long p1), .second] [] t → own_En p e below m s₁ #[(.long p0), (.long p1)] 4 t := fun t k => castTop (ef_of m p0 p1 ) k
  obtain ⟨S_EMPTY_ELEMENTDATA, E_EMPTY_ELEMENTDATA, S_DEFAULTCAPACITY_EMPTY_ELEMENTDATA, E_DEFAULTCAPACITY_EMPTY_ELEMENTDATA, S_cache, E_cache, S_TRUE, E_TRUE, F_TRUE_value, S_MILLISECONDS, E_MILLISECONDS, F_MILLISECONDS_name, E_MILLISECONDS_name, F_MILLISECONDS_ordinal, F_MILLISECONDS_scale, F_MILLISECONDS_maxNanos, F_MILLISECONDS_microRatio, F_MILLISECONDS_maxMicros, F_MILLISECONDS_milliRatio, F_MILLISECONDS_maxMillis, F_MILLISECONDS_secRatio, F_MILLISECONDS_maxSecs, S_FALSE, E_FALSE, F_FALSE_value, C_EMPTY_ELEMENTDATA, C_DEFAULTCAPACITY_EMPTY_ELEMENTDATA, B_cache⟩ := (id hE : EV Z a_EMPTY_ELEMENTDATA a_DEFAULTCAPACITY_EMPTY_ELEMENTDATA a_cache a_TRUE a_MILLISECONDS a_MILLISECONDS_name a_FALSE cl_cache)
  obtain ⟨k_DEF, A_DEF⟩ := C_DEFAULTCAPACITY_EMPTY_ELEMENTDATA.arv
  obtain ⟨T10, h10, X10, e10, E10, A10, D10, -, st10⟩ := newO X00 hx hZ hown (own_w hw 106 rfl) (own_w hw 107 rfl) (own_w hw 71 rfl) e00 (g := (mkF m 0 #[.val (.long p0), .second, .val (.long p1), .second] [])) rfl (hb hby d_prog_5_method_3_code_0) (by decide) (by decide)
  obtain ⟨b10, g10⟩ : ∃ z, z = h0.size := ⟨_, rfl⟩
  rw [← g10] at A10 D10 st10
  have O10 := O0.ext E10
  have g_b10 : n0 ≤ b10 := Nat.le_trans (Nat.le_of_eq O0.1.symm) (Nat.le_trans O0.2.1 (Nat.le_of_eq g10.symm))
  have s_b10 : h0.size ≤ b10 := Nat.le_trans K00.1 (Nat.le_of_eq g10.symm)
  have K10 := K00.ext E10
  have lt_b10 := A10.lt
  have F10_holds : Fld Z h10 b10 "com/example/plus1/plus1/Take" "holds" "J" (.long (0 : Int64)) := D10 (Or.inr (own_w hw 118 rfl)) (ty := .long) (by decide)
  have F10_retryMillis : Fld Z h10 b10 "com/example/plus1/plus1/Take" "retryMillis" "J" (.long (0 : Int64)) := D10 (Or.inr (own_w hw 120 rfl)) (ty := .long) (by decide)
  have F10_heldBefore : Fld Z h10 b10 "com/example/plus1/plus1/Take" "heldBefore" "Ljava/lang/Boolean;" .null := D10 (Or.inr (own_w hw 122 rfl)) (ty := (.object "java/lang/Boolean")) (by decide)
  have k11 : ∀ t, own_At p e below m T10 9 #[.val (.long p0), .second, .val (.long p1), .second] [(.int (lcmpW p0 (1 : Int64))), (.long p1), (.long p0), (.ref b10), (.ref b10)] t → own_En p e below m s₁ #[(.long p0), (.long p1)] 4 t := by
    intro t k
    refine k00 t ?_
    refine st10 _ ?_
    show own_At p e below m T10 3 #[.val (.long p0), .second, .val (.long p1), .second] [(.ref b10)] t
    refine XS.dup X10.here hx rfl (hb hby d_prog_5_method_3_code_3) rfl rfl ?_
    show own_At p e below m T10 4 #[.val (.long p0), .second, .val (.long p1), .second] [(.ref b10), (.ref b10)] t
    refine XS.lloadN X10.here hx rfl (hb hby d_prog_5_method_3_code_4) rfl ?_
    show own_At p e below m T10 5 #[.val (.long p0), .second, .val (.long p1), .second] [(.long p0), (.ref b10), (.ref b10)] t
    refine XS.lloadN X10.here hx rfl (hb hby d_prog_5_method_3_code_5) rfl ?_
    show own_At p e below m T10 6 #[.val (.long p0), .second, .val (.long p1), .second] [(.long p1), (.long p0), (.ref b10), (.ref b10)] t
    refine XS.lloadN X10.here hx rfl (hb hby d_prog_5_method_3_code_6) rfl ?_
    show own_At p e below m T10 7 #[.val (.long p0), .second, .val (.long p1), .second] [(.long p0), (.long p1), (.long p0), (.ref b10), (.ref b10)] t
    refine XS.lconst X10.here hx rfl (hb hby d_prog_5_method_3_code_7) ?_
    show own_At p e below m T10 8 #[.val (.long p0), .second, .val (.long p1), .second] [(.long (1 : Int64)), (.long p0), (.long p1), (.long p0), (.ref b10), (.ref b10)] t
    refine XS.lcmp X10.here hx rfl (hb hby d_prog_5_method_3_code_8) rfl ?_
    show own_At p e below m T10 9 #[.val (.long p0), .second, .val (.long p1), .second] [(.int (lcmpW p0 (1 : Int64))), (.long p1), (.long p0), (.ref b10), (.ref b10)] t
    exact k
  by_cases hc12 : (0 : Int32) < (lcmpW p0 (1 : Int64))
  · obtain ⟨_, _, ⟨T13, L13, k13, n13⟩, -, X13, ⟨Lc13, hQ13, l13, y13, z13⟩, st13⟩ := Jvm.LawKit.callS X10 hx (y := own_m17) hown (mvT hZ (own_w hw 108 rfl)) (mvT hZ (own_w hw 109 rfl)) (mvT hZ (own_w hw 110 rfl)) (mvT hZ (own_w hw 111 rfl)) (by decide) (backOf (W := 6) (rm_f12 l Z a0 hw []  _ _ _ _ _ _ _ _ h10 n0 O10 hE) hZ (own_w hw 111 rfl) (own_w hw 110 rfl) (by decide) (by decide)) (g := (mkF m 17 #[.val (.long p0), .second, .val (.long p1), .second] [(.int (1 : Int32)), (.long p1), (.long p0), (.ref b10), (.ref b10)])) rfl (by rw [hml]; rfl) (argsL := [(.int (1 : Int32))]) (rest := [(.long p1), (.long p0), (.ref b10), (.ref b10)]) (lenOf pd__Z_Ljava_lang_Boolean_ rfl) rfl (by show 2 * 0 + _ ≤ _; exact Nat.le_of_eq rfl) (hb hby d_prog_5_method_3_code_17) (fun _ _ => ⟨rfl, e10, (by decide : 1 + 0 ≤ _), (by decide : 3 + 0 ≤ _)⟩)
    dsimp only [Pt.U, Pt.locs, Pt.cells, Pt.slots] at X13 l13 y13 z13 st13 hQ13
    subst l13 y13 z13
    obtain ⟨rfl, N13q, hp13⟩ := hQ13
    have N13 := Fr.app N00 N13q
    obtain ⟨_, _, ⟨T14, L14, k14, n14⟩, -, X14, ⟨Lc14, hQ14, l14, y14, z14⟩, st14⟩ := X13.specialBack hx (y := own_m16) rfl hown (mvT hZ (own_w hw 113 rfl)) (mvT hZ (own_w hw 114 rfl)) (mvT hZ (own_w hw 115 rfl)) (by decide) (backOf (W := 1) (rm_ctor l Z a0 hw [] b10 p0 p1 a_TRUE _ _ _ _ _ _ _ _ h10 n0 O10 hE F10_holds F10_retryMillis F10_heldBefore A10 g_b10 ) hZ (own_w hw 115 rfl) (own_w hw 71 rfl) (by decide) (by decide)) (g := (mkF m 20 #[.val (.long p0), .second, .val (.long p1), .second] [(.ref a_TRUE), (.long p1), (.long p0), (.ref b10), (.ref b10)])) rfl (by rw [hml]; rfl) (Steps.refl _) (a := b10) (argsL := [(.long p0), (.long p1), (.ref a_TRUE)]) (rest := [(.ref b10)]) (lenOf pd__JJLjava_lang_Boolean__V rfl) rfl (by show 2 * 0 + _ ≤ _; exact Nat.le_of_eq rfl) (hb hby d_prog_5_method_3_code_20) (fun _ _ => ⟨rfl, hp13, (by decide : 1 + 0 ≤ _), (by decide : 3 + 0 ≤ _)⟩)
    dsimp only [Pt.U, Pt.locs, Pt.cells, Pt.slots] at X14 l14 y14 z14 st14 hQ14
    subst l14 y14 z14
    obtain ⟨rfl, N14q, O14, Kc14, Ex14, G14_0, G14_1, G14_2⟩ := hQ14
    have N14 := Fr.app N13 N14q
    have K14 := K10.trans Kc14 (allS (Or.inr s_b10) all0)
    have k15 : ∀ t, own_At p e below m T14 23 #[.val (.long p0), .second, .val (.long p1), .second] [(.ref b10)] t → own_En p e below m s₁ #[(.long p0), (.long p1)] 4 t := by
      intro t k
      refine k11 t ?_
      refine XS.ifNo X10.here hx rfl (hb hby d_prog_5_method_3_code_9) rfl ((if0 _ _).trans (tlt hc12).2.2.2) ?_
      show own_At p e below m T10 12 #[.val (.long p0), .second, .val (.long p1), .second] [(.long p1), (.long p0), (.ref b10), (.ref b10)] t
      refine XS.iconst X10.here hx rfl (hb hby d_prog_5_method_3_code_12) ?_
      show own_At p e below m T10 13 #[.val (.long p0), .second, .val (.long p1), .second] [(.int (1 : Int32)), (.long p1), (.long p0), (.ref b10), (.ref b10)] t
      refine XS.goto X10.here hx rfl (pc0 := 13) (pc' := 17) rfl (hb hby d_prog_5_method_3_code_13) (by decide) (by decide) ?_
      show own_At p e below m T10 17 #[.val (.long p0), .second, .val (.long p1), .second] [(.int (1 : Int32)), (.long p1), (.long p0), (.ref b10), (.ref b10)] t
      refine st13 _ ?_
      show own_At p e below m T13 20 #[.val (.long p0), .second, .val (.long p1), .second] [(.ref a_TRUE), (.long p1), (.long p0), (.ref b10), (.ref b10)] t
      refine st14.trans ?_
      show own_At p e below m T14 23 #[.val (.long p0), .second, .val (.long p1), .second] [(.ref b10)] t
      exact k
    obtain ⟨fs, hr, hrun, hended, hW, hsame⟩ := X14.leave (v := some (.ref b10)) (fun h => by rw [Bd.returns] at h; cases h)
    refine hNG ⟨_, _, k15 _ ?_, hrun, hended, _, _, rfl, ?_, ⟨_, rfl⟩, hW, hsame.mono (by decide) (by decide)⟩
    · exact retOut X14 hx (t := (.object "com/example/plus1/plus1/Take")) Bd.returns rfl (Or.inr (Or.inr (Or.inr (Or.inr ⟨rfl, rfl, rfl⟩)))) (hb hby d_prog_5_method_3_code_23) hr
    · show Q_of Z p0 p1 a_EMPTY_ELEMENTDATA a_DEFAULTCAPACITY_EMPTY_ELEMENTDATA a_cache a_TRUE a_MILLISECONDS a_MILLISECONDS_name a_FALSE cl_cache h0 n0 _ T14.heap _
      have eh : own_held p0 a_TRUE a_FALSE = a_TRUE := if_pos hc12
      exact ⟨_, rfl, N14, O14, K14, g_b10, s_b10, Ex14, G14_0, G14_1, by rw [eh]; exact G14_2⟩
  · obtain ⟨_, _, ⟨T16, L16, k16, n16⟩, -, X16, ⟨Lc16, hQ16, l16, y16, z16⟩, st16⟩ := Jvm.LawKit.callS X10 hx (y := own_m17) hown (mvT hZ (own_w hw 108 rfl)) (mvT hZ (own_w hw 109 rfl)) (mvT hZ (own_w hw 110 rfl)) (mvT hZ (own_w hw 111 rfl)) (by decide) (backOf (W := 6) (rm_f13 l Z a0 hw []  _ _ _ _ _ _ _ _ h10 n0 O10 hE) hZ (own_w hw 111 rfl) (own_w hw 110 rfl) (by decide) (by decide)) (g := (mkF m 17 #[.val (.long p0), .second, .val (.long p1), .second] [(.int (0 : Int32)), (.long p1), (.long p0), (.ref b10), (.ref b10)])) rfl (by rw [hml]; rfl) (argsL := [(.int (0 : Int32))]) (rest := [(.long p1), (.long p0), (.ref b10), (.ref b10)]) (lenOf pd__Z_Ljava_lang_Boolean_ rfl) rfl (by show 2 * 0 + _ ≤ _; exact Nat.le_of_eq rfl) (hb hby d_prog_5_method_3_code_17) (fun _ _ => ⟨rfl, e10, (by decide : 1 + 0 ≤ _), (by decide : 3 + 0 ≤ _)⟩)
    dsimp only [Pt.U, Pt.locs, Pt.cells, Pt.slots] at X16 l16 y16 z16 st16 hQ16
    subst l16 y16 z16
    obtain ⟨rfl, N16q, hp16⟩ := hQ16
    have N16 := Fr.app N00 N16q
    obtain ⟨_, _, ⟨T17, L17, k17, n17⟩, -, X17, ⟨Lc17, hQ17, l17, y17, z17⟩, st17⟩ := X16.specialBack hx (y := own_m16) rfl hown (mvT hZ (own_w hw 113 rfl)) (mvT hZ (own_w hw 114 rfl)) (mvT hZ (own_w hw 115 rfl)) (by decide) (backOf (W := 1) (rm_ctor l Z a0 hw [] b10 p0 p1 a_FALSE _ _ _ _ _ _ _ _ h10 n0 O10 hE F10_holds F10_retryMillis F10_heldBefore A10 g_b10 ) hZ (own_w hw 115 rfl) (own_w hw 71 rfl) (by decide) (by decide)) (g := (mkF m 20 #[.val (.long p0), .second, .val (.long p1), .second] [(.ref a_FALSE), (.long p1), (.long p0), (.ref b10), (.ref b10)])) rfl (by rw [hml]; rfl) (Steps.refl _) (a := b10) (argsL := [(.long p0), (.long p1), (.ref a_FALSE)]) (rest := [(.ref b10)]) (lenOf pd__JJLjava_lang_Boolean__V rfl) rfl (by show 2 * 0 + _ ≤ _; exact Nat.le_of_eq rfl) (hb hby d_prog_5_method_3_code_20) (fun _ _ => ⟨rfl, hp16, (by decide : 1 + 0 ≤ _), (by decide : 3 + 0 ≤ _)⟩)
    dsimp only [Pt.U, Pt.locs, Pt.cells, Pt.slots] at X17 l17 y17 z17 st17 hQ17
    subst l17 y17 z17
    obtain ⟨rfl, N17q, O17, Kc17, Ex17, G17_0, G17_1, G17_2⟩ := hQ17
    have N17 := Fr.app N16 N17q
    have K17 := K10.trans Kc17 (allS (Or.inr s_b10) all0)
    have k18 : ∀ t, own_At p e below m T17 23 #[.val (.long p0), .second, .val (.long p1), .second] [(.ref b10)] t → own_En p e below m s₁ #[(.long p0), (.long p1)] 4 t := by
      intro t k
      refine k11 t ?_
      refine XS.ifYes X10.here hx rfl (pc0 := 9) (pc' := 16) rfl (hb hby d_prog_5_method_3_code_9) rfl ((if0 _ _).trans (flt hc12).2.2.2) (by decide) (by decide) ?_
      show own_At p e below m T10 16 #[.val (.long p0), .second, .val (.long p1), .second] [(.long p1), (.long p0), (.ref b10), (.ref b10)] t
      refine XS.iconst X10.here hx rfl (hb hby d_prog_5_method_3_code_16) ?_
      show own_At p e below m T10 17 #[.val (.long p0), .second, .val (.long p1), .second] [(.int (0 : Int32)), (.long p1), (.long p0), (.ref b10), (.ref b10)] t
      refine st16 _ ?_
      show own_At p e below m T16 20 #[.val (.long p0), .second, .val (.long p1), .second] [(.ref a_FALSE), (.long p1), (.long p0), (.ref b10), (.ref b10)] t
      refine st17.trans ?_
      show own_At p e below m T17 23 #[.val (.long p0), .second, .val (.long p1), .second] [(.ref b10)] t
      exact k
    obtain ⟨fs, hr, hrun, hended, hW, hsame⟩ := X17.leave (v := some (.ref b10)) (fun h => by rw [Bd.returns] at h; cases h)
    refine hNG ⟨_, _, k18 _ ?_, hrun, hended, _, _, rfl, ?_, ⟨_, rfl⟩, hW, hsame.mono (by decide) (by decide)⟩
    · exact retOut X17 hx (t := (.object "com/example/plus1/plus1/Take")) Bd.returns rfl (Or.inr (Or.inr (Or.inr (Or.inr ⟨rfl, rfl, rfl⟩)))) (hb hby d_prog_5_method_3_code_23) hr
    · show Q_of Z p0 p1 a_EMPTY_ELEMENTDATA a_DEFAULTCAPACITY_EMPTY_ELEMENTDATA a_cache a_TRUE a_MILLISECONDS a_MILLISECONDS_name a_FALSE cl_cache h0 n0 _ T17.heap _
      have eh : own_held p0 a_TRUE a_FALSE = a_FALSE := if_neg hc12
      exact ⟨_, rfl, N17, O17, K17, g_b10, s_b10, Ex17, G17_0, G17_1, by rw [eh]; exact G17_2⟩
theorem ef_holds (m : MethodId) (x0 : Addr)  : entryFrame m #[(.ref x0)] 1 = mkF m 0 #[.val (.ref x0)] [] := by first | (simp [entryFrame, mkF, argsToLocals, Value.category]; done) | rfl
theorem d_prog_5_method_6_code_0 : decode prog_5_method_6_code 0 = .ok (.aload_n 0, 1) := by decide +kernel
theorem d_prog_5_method_6_code_1 : decode prog_5_method_6_code 1 = .ok (.getfield 7, 3) := by decide +kernel
theorem d_prog_5_method_6_code_4 : decode prog_5_method_6_code 4 = .ok (.lreturn, 1) := by decide +kernel
abbrev own_m19 : MethodName := ⟨"com/example/plus1/plus1/Take", "holds", "()J"⟩
def Q_holds (Z : State) (q0 : Addr) (p0 : Int64) (a_EMPTY_ELEMENTDATA : Addr) (a_DEFAULTCAPACITY_EMPTY_ELEMENTDATA : Addr) (a_cache : Addr) (a_TRUE : Addr) (a_MILLISECONDS : Addr) (a_MILLISECONDS_name : Addr) (a_FALSE : Addr) (cl_cache : Cell) (h0 : Heap) (n0 : Nat) (v : Option Value) (h : Heap) (L : List Loc) : Prop := v = some (.long p0) ∧ Fr n0 L ∧ h = h0
set_option maxRecDepth 65536 in
set_option maxHeartbeats 40000000 in
theorem rm_holds (l : Launch) (Z : State) (a0 : Array Value) (hw : ∀ d ∈ tables_1, d.before a0 Z = true) (ws : List Jvm.Cond) (q0 : Addr) (p0 : Int64) (a_EMPTY_ELEMENTDATA : Addr) (a_DEFAULTCAPACITY_EMPTY_ELEMENTDATA : Addr) (a_cache : Addr) (a_TRUE : Addr) (a_MILLISECONDS : Addr) (a_MILLISECONDS_name : Addr) (a_FALSE : Addr) (cl_cache : Cell) (h0 : Heap) (n0 : Nat) (O0 : Old Z n0 h0) (hE : EV Z a_EMPTY_ELEMENTDATA a_DEFAULTCAPACITY_EMPTY_ELEMENTDATA a_cache a_TRUE a_MILLISECONDS a_MILLISECONDS_name a_FALSE cl_cache) (F0 : Fld Z h0 q0 "com/example/plus1/plus1/Take" "holds" "J" (.long p0)) :
    MetFree l own_m19 (head1 (Jvm.Cond.code own_m19 prog_5_method_6_code 1 (some .long) :: ws) ({ frames := 0, cells := 0, slots := 0, locals := 0 } : Room)) (fun a U => a = #[(.ref q0)] ∧ Z.Warmed39 U.vm ∧ U.heap = h0) (fun _ _ _ _ _ => True) (fun _ U o U' => ∃ v L, o = .returned v ∧ Q_holds Z q0 p0 a_EMPTY_ELEMENTDATA a_DEFAULTCAPACITY_EMPTY_ELEMENTDATA a_cache a_TRUE a_MILLISECONDS a_MILLISECONDS_name a_FALSE cl_cache h0 n0 v U'.heap L ∧ FrameEnd U o U' L ({ frames := 0, cells := 0, slots := 0, locals := 0 } : Room).cells ({ frames := 0, cells := 0, slots := 0, locals := 0 } : Room).slots) := by
  refine MetFree.of_bodySF (plainFor_of_name pn_com_example_plus1_plus1_Take) hisR ?_
  intro p e s m args below meth c s₁ Bd hml0 hP hK
  obtain ⟨rfl, hZ, hh⟩ := hP
  have hx := Bd.exec
  have hby := Bd.bytes
  have hml : c.maxLocals = 1 := hml0
  have hown : s.vm.findClass "com/example/plus1/plus1/Take" = some m.cls := findClass_of_methodNamed Bd.named
  have hnm := (name_of_methodNamed Bd.named Bd.method).1
  have X00 : Stand p l e ({ frames := 0, cells := 0, slots := 0, locals := 0 } : Room) s m #[(.ref q0)] below meth c s₁ [] 0 0 := Stand.of_body Bd
  have e00 : s₁.heap = h0 := by rw [← hh, Bd.state]; rfl
  have N00 := Fr.nil n0
  refine Classical.byContradiction fun hNG => ?_
  have K00 := Keep.refl h0 []
  have k00 : ∀ t, own_At p e below m s₁ 0 #[.val (.ref q0)] [] t → own_En p e below m s₁ #[(.ref q0)] 1 t := fun t k => castTop (ef_holds m q0 ) k
  obtain ⟨S_EMPTY_ELEMENTDATA, E_EMPTY_ELEMENTDATA, S_DEFAULTCAPACITY_EMPTY_ELEMENTDATA, E_DEFAULTCAPACITY_EMPTY_ELEMENTDATA, S_cache, E_cache, S_TRUE, E_TRUE, F_TRUE_value, S_MILLISECONDS, E_MILLISECONDS, F_MILLISECONDS_name, E_MILLISECONDS_name, F_MILLISECONDS_ordinal, F_MILLISECONDS_scale, F_MILLISECONDS_maxNanos, F_MILLISECONDS_microRatio, F_MILLISECONDS_maxMicros, F_MILLISECONDS_milliRatio, F_MILLISECONDS_maxMillis, F_MILLISECONDS_secRatio, F_MILLISECONDS_maxSecs, S_FALSE, E_FALSE, F_FALSE_value, C_EMPTY_ELEMENTDATA, C_DEFAULTCAPACITY_EMPTY_ELEMENTDATA, B_cache⟩ := (id hE : EV Z a_EMPTY_ELEMENTDATA a_DEFAULTCAPACITY_EMPTY_ELEMENTDATA a_cache a_TRUE a_MILLISECONDS a_MILLISECONDS_name a_FALSE cl_cache)
  obtain ⟨k_DEF, A_DEF⟩ := C_DEFAULTCAPACITY_EMPTY_ELEMENTDATA.arv
  obtain ⟨T10, X10, e10, st10⟩ := getF X00 hx hZ hown (host := "") (Or.inl (own_w hw 117 rfl)) Via.refl e00 F0 (g := (mkF m 1 #[.val (.ref q0)] [(.ref q0)])) rfl rfl (hb hby d_prog_5_method_6_code_1)
  have k11 : ∀ t, own_At p e below m T10 4 #[.val (.ref q0)] [(.long p0)] t → own_En p e below m s₁ #[(.ref q0)] 1 t := by
    intro t k
    refine k00 t ?_
    refine XS.aloadN X00.here hx rfl (hb hby d_prog_5_method_6_code_0) rfl rfl ?_
    show own_At p e below m s₁ 1 #[.val (.ref q0)] [(.ref q0)] t
    refine st10 _ ?_
    show own_At p e below m T10 4 #[.val (.ref q0)] [(.long p0)] t
    exact k
  obtain ⟨fs, hr, hrun, hended, hW, hsame⟩ := X10.leave (v := some (.long p0)) (fun h => by rw [Bd.returns] at h; cases h)
  refine hNG ⟨_, _, k11 _ ?_, hrun, hended, _, _, rfl, ?_, ⟨_, rfl⟩, hW, hsame.mono (by decide) (by decide)⟩
  · exact retOut X10 hx (t := .long) Bd.returns rfl (Or.inr (Or.inl ⟨rfl, rfl, _, rfl⟩)) (hb hby d_prog_5_method_6_code_4) hr
  · show Q_holds Z q0 p0 a_EMPTY_ELEMENTDATA a_DEFAULTCAPACITY_EMPTY_ELEMENTDATA a_cache a_TRUE a_MILLISECONDS a_MILLISECONDS_name a_FALSE cl_cache h0 n0 _ T10.heap _
    rw [e10]
    exact ⟨rfl, N00, rfl⟩
theorem ef_taken_t (m : MethodId) (x0 : Addr)  : entryFrame m #[(.ref x0)] 1 = mkF m 0 #[.val (.ref x0)] [] := by first | (simp [entryFrame, mkF, argsToLocals, Value.category]; done) | rfl
theorem d_prog_5_method_5_code_0 : decode prog_5_method_5_code 0 = .ok (.aload_n 0, 1) := by decide +kernel
theorem d_prog_5_method_5_code_1 : decode prog_5_method_5_code 1 = .ok (.getfield 7, 3) := by decide +kernel
theorem d_prog_5_method_5_code_4 : decode prog_5_method_5_code 4 = .ok (.lconst 0, 1) := by decide +kernel
theorem d_prog_5_method_5_code_5 : decode prog_5_method_5_code 5 = .ok (.lcmp, 1) := by decide +kernel
theorem d_prog_5_method_5_code_6 : decode prog_5_method_5_code 6 = .ok (.ifCond .le 7, 3) := by decide +kernel
theorem d_prog_5_method_5_code_9 : decode prog_5_method_5_code 9 = .ok (.iconst 1, 1) := by decide +kernel
theorem d_prog_5_method_5_code_10 : decode prog_5_method_5_code 10 = .ok (.goto 4, 3) := by decide +kernel
theorem d_prog_5_method_5_code_14 : decode prog_5_method_5_code 14 = .ok (.ireturn, 1) := by decide +kernel
abbrev own_m20 : MethodName := ⟨"com/example/plus1/plus1/Take", "taken", "()Z"⟩
def Q_taken_t (Z : State) (q0 : Addr) (p0 : Int64) (a_EMPTY_ELEMENTDATA : Addr) (a_DEFAULTCAPACITY_EMPTY_ELEMENTDATA : Addr) (a_cache : Addr) (a_TRUE : Addr) (a_MILLISECONDS : Addr) (a_MILLISECONDS_name : Addr) (a_FALSE : Addr) (cl_cache : Cell) (h0 : Heap) (n0 : Nat) (v : Option Value) (h : Heap) (L : List Loc) : Prop := v = some (.int (1 : Int32)) ∧ Fr n0 L ∧ h = h0
set_option maxRecDepth 65536 in
set_option maxHeartbeats 40000000 in
theorem rm_taken_t (l : Launch) (Z : State) (a0 : Array Value) (hw : ∀ d ∈ tables_1, d.before a0 Z = true) (ws : List Jvm.Cond) (q0 : Addr) (p0 : Int64) (a_EMPTY_ELEMENTDATA : Addr) (a_DEFAULTCAPACITY_EMPTY_ELEMENTDATA : Addr) (a_cache : Addr) (a_TRUE : Addr) (a_MILLISECONDS : Addr) (a_MILLISECONDS_name : Addr) (a_FALSE : Addr) (cl_cache : Cell) (h0 : Heap) (n0 : Nat) (O0 : Old Z n0 h0) (hE : EV Z a_EMPTY_ELEMENTDATA a_DEFAULTCAPACITY_EMPTY_ELEMENTDATA a_cache a_TRUE a_MILLISECONDS a_MILLISECONDS_name a_FALSE cl_cache) (F0 : Fld Z h0 q0 "com/example/plus1/plus1/Take" "holds" "J" (.long p0)) (hgt : (0 : Int32) < (lcmpW p0 (0 : Int64))) :
    MetFree l own_m20 (head1 (Jvm.Cond.code own_m20 prog_5_method_5_code 1 (some .boolean) :: ws) ({ frames := 0, cells := 0, slots := 0, locals := 0 } : Room)) (fun a U => a = #[(.ref q0)] ∧ Z.Warmed39 U.vm ∧ U.heap = h0) (fun _ _ _ _ _ => True) (fun _ U o U' => ∃ v L, o = .returned v ∧ Q_taken_t Z q0 p0 a_EMPTY_ELEMENTDATA a_DEFAULTCAPACITY_EMPTY_ELEMENTDATA a_cache a_TRUE a_MILLISECONDS a_MILLISECONDS_name a_FALSE cl_cache h0 n0 v U'.heap L ∧ FrameEnd U o U' L ({ frames := 0, cells := 0, slots := 0, locals := 0 } : Room).cells ({ frames := 0, cells := 0, slots := 0, locals := 0 } : Room).slots) := by
  refine MetFree.of_bodySF (plainFor_of_name pn_com_example_plus1_plus1_Take) hisR ?_
  intro p e s m args below meth c s₁ Bd hml0 hP hK
  obtain ⟨rfl, hZ, hh⟩ := hP
  have hx := Bd.exec
  have hby := Bd.bytes
  have hml : c.maxLocals = 1 := hml0
  have hown : s.vm.findClass "com/example/plus1/plus1/Take" = some m.cls := findClass_of_methodNamed Bd.named
  have hnm := (name_of_methodNamed Bd.named Bd.method).1
  have X00 : Stand p l e ({ frames := 0, cells := 0, slots := 0, locals := 0 } : Room) s m #[(.ref q0)] below meth c s₁ [] 0 0 := Stand.of_body Bd
  have e00 : s₁.heap = h0 := by rw [← hh, Bd.state]; rfl
  have N00 := Fr.nil n0
  refine Classical.byContradiction fun hNG => ?_
  have K00 := Keep.refl h0 []
  have k00 : ∀ t, own_At p e below m s₁ 0 #[.val (.ref q0)] [] t → own_En p e below m s₁ #[(.ref q0)] 1 t := fun t k => castTop (ef_taken_t m q0 ) k
  obtain ⟨S_EMPTY_ELEMENTDATA, E_EMPTY_ELEMENTDATA, S_DEFAULTCAPACITY_EMPTY_ELEMENTDATA, E_DEFAULTCAPACITY_EMPTY_ELEMENTDATA, S_cache, E_cache, S_TRUE, E_TRUE, F_TRUE_value, S_MILLISECONDS, E_MILLISECONDS, F_MILLISECONDS_name, E_MILLISECONDS_name, F_MILLISECONDS_ordinal, F_MILLISECONDS_scale, F_MILLISECONDS_maxNanos, F_MILLISECONDS_microRatio, F_MILLISECONDS_maxMicros, F_MILLISECONDS_milliRatio, F_MILLISECONDS_maxMillis, F_MILLISECONDS_secRatio, F_MILLISECONDS_maxSecs, S_FALSE, E_FALSE, F_FALSE_value, C_EMPTY_ELEMENTDATA, C_DEFAULTCAPACITY_EMPTY_ELEMENTDATA, B_cache⟩ := (id hE : EV Z a_EMPTY_ELEMENTDATA a_DEFAULTCAPACITY_EMPTY_ELEMENTDATA a_cache a_TRUE a_MILLISECONDS a_MILLISECONDS_name a_FALSE cl_cache)
  obtain ⟨k_DEF, A_DEF⟩ := C_DEFAULTCAPACITY_EMPTY_ELEMENTDATA.arv
  obtain ⟨T10, X10, e10, st10⟩ := getF X00 hx hZ hown (host := "") (Or.inl (own_w hw 117 rfl)) Via.refl e00 F0 (g := (mkF m 1 #[.val (.ref q0)] [(.ref q0)])) rfl rfl (hb hby d_prog_5_method_5_code_1)
  have k11 : ∀ t, own_At p e below m T10 14 #[.val (.ref q0)] [(.int (1 : Int32))] t → own_En p e below m s₁ #[(.ref q0)] 1 t := by
    intro t k
    refine k00 t ?_
    refine XS.aloadN X00.here hx rfl (hb hby d_prog_5_method_5_code_0) rfl rfl ?_
    show own_At p e below m s₁ 1 #[.val (.ref q0)] [(.ref q0)] t
    refine st10 _ ?_
    show own_At p e below m T10 4 #[.val (.ref q0)] [(.long p0)] t
    refine XS.lconst X10.here hx rfl (hb hby d_prog_5_method_5_code_4) ?_
    show own_At p e below m T10 5 #[.val (.ref q0)] [(.long (0 : Int64)), (.long p0)] t
    refine XS.lcmp X10.here hx rfl (hb hby d_prog_5_method_5_code_5) rfl ?_
    show own_At p e below m T10 6 #[.val (.ref q0)] [(.int (lcmpW p0 (0 : Int64)))] t
    refine XS.ifNo X10.here hx rfl (hb hby d_prog_5_method_5_code_6) rfl ((if0 _ _).trans (tlt hgt).2.2.2) ?_
    show own_At p e below m T10 9 #[.val (.ref q0)] [] t
    refine XS.iconst X10.here hx rfl (hb hby d_prog_5_method_5_code_9) ?_
    show own_At p e below m T10 10 #[.val (.ref q0)] [(.int (1 : Int32))] t
    refine XS.goto X10.here hx rfl (pc0 := 10) (pc' := 14) rfl (hb hby d_prog_5_method_5_code_10) (by decide) (by decide) ?_
    show own_At p e below m T10 14 #[.val (.ref q0)] [(.int (1 : Int32))] t
    exact k
  obtain ⟨fs, hr, hrun, hended, hW, hsame⟩ := X10.leave (v := some (.int (1 : Int32))) (fun h => by rw [Bd.returns] at h; cases h)
  refine hNG ⟨_, _, k11 _ ?_, hrun, hended, _, _, rfl, ?_, ⟨_, rfl⟩, hW, hsame.mono (by decide) (by decide)⟩
  · exact retN X10 hx (t := .boolean) Bd.returns (by simp) (hb hby d_prog_5_method_5_code_14) hr
  · show Q_taken_t Z q0 p0 a_EMPTY_ELEMENTDATA a_DEFAULTCAPACITY_EMPTY_ELEMENTDATA a_cache a_TRUE a_MILLISECONDS a_MILLISECONDS_name a_FALSE cl_cache h0 n0 _ T10.heap _
    rw [e10]
    exact ⟨rfl, N00, rfl⟩
theorem ef_taken_f (m : MethodId) (x0 : Addr)  : entryFrame m #[(.ref x0)] 1 = mkF m 0 #[.val (.ref x0)] [] := by first | (simp [entryFrame, mkF, argsToLocals, Value.category]; done) | rfl
theorem d_prog_5_method_5_code_13 : decode prog_5_method_5_code 13 = .ok (.iconst 0, 1) := by decide +kernel
def Q_taken_f (Z : State) (q0 : Addr) (p0 : Int64) (a_EMPTY_ELEMENTDATA : Addr) (a_DEFAULTCAPACITY_EMPTY_ELEMENTDATA : Addr) (a_cache : Addr) (a_TRUE : Addr) (a_MILLISECONDS : Addr) (a_MILLISECONDS_name : Addr) (a_FALSE : Addr) (cl_cache : Cell) (h0 : Heap) (n0 : Nat) (v : Option Value) (h : Heap) (L : List Loc) : Prop := v = some (.int (0 : Int32)) ∧ Fr n0 L ∧ h = h0
set_option maxRecDepth 65536 in
set_option maxHeartbeats 40000000 in
theorem rm_taken_f (l : Launch) (Z : State) (a0 : Array Value) (hw : ∀ d ∈ tables_1, d.before a0 Z = true) (ws : List Jvm.Cond) (q0 : Addr) (p0 : Int64) (a_EMPTY_ELEMENTDATA : Addr) (a_DEFAULTCAPACITY_EMPTY_ELEMENTDATA : Addr) (a_cache : Addr) (a_TRUE : Addr) (a_MILLISECONDS : Addr) (a_MILLISECONDS_name : Addr) (a_FALSE : Addr) (cl_cache : Cell) (h0 : Heap) (n0 : Nat) (O0 : Old Z n0 h0) (hE : EV Z a_EMPTY_ELEMENTDATA a_DEFAULTCAPACITY_EMPTY_ELEMENTDATA a_cache a_TRUE a_MILLISECONDS a_MILLISECONDS_name a_FALSE cl_cache) (F0 : Fld Z h0 q0 "com/example/plus1/plus1/Take" "holds" "J" (.long p0)) (hgt : ¬ ((0 : Int32) < (lcmpW p0 (0 : Int64)))) :
    MetFree l own_m20 (head1 (Jvm.Cond.code own_m20 prog_5_method_5_code 1 (some .boolean) :: ws) ({ frames := 0, cells := 0, slots := 0, locals := 0 } : Room)) (fun a U => a = #[(.ref q0)] ∧ Z.Warmed39 U.vm ∧ U.heap = h0) (fun _ _ _ _ _ => True) (fun _ U o U' => ∃ v L, o = .returned v ∧ Q_taken_f Z q0 p0 a_EMPTY_ELEMENTDATA a_DEFAULTCAPACITY_EMPTY_ELEMENTDATA a_cache a_TRUE a_MILLISECONDS a_MILLISECONDS_name a_FALSE cl_cache h0 n0 v U'.heap L ∧ FrameEnd U o U' L ({ frames := 0, cells := 0, slots := 0, locals := 0 } : Room).cells ({ frames := 0, cells := 0, slots := 0, locals := 0 } : Room).slots) := by
  refine MetFree.of_bodySF (plainFor_of_name pn_com_example_plus1_plus1_Take) hisR ?_
  intro p e s m args below meth c s₁ Bd hml0 hP hK
  obtain ⟨rfl, hZ, hh⟩ := hP
  have hx := Bd.exec
  have hby := Bd.bytes
  have hml : c.maxLocals = 1 := hml0
  have hown : s.vm.findClass "com/example/plus1/plus1/Take" = some m.cls := findClass_of_methodNamed Bd.named
  have hnm := (name_of_methodNamed Bd.named Bd.method).1
  have X00 : Stand p l e ({ frames := 0, cells := 0, slots := 0, locals := 0 } : Room) s m #[(.ref q0)] below meth c s₁ [] 0 0 := Stand.of_body Bd
  have e00 : s₁.heap = h0 := by rw [← hh, Bd.state]; rfl
  have N00 := Fr.nil n0
  refine Classical.byContradiction fun hNG => ?_
  have K00 := Keep.refl h0 []
  have k00 : ∀ t, own_At p e below m s₁ 0 #[.val (.ref q0)] [] t → own_En p e below m s₁ #[(.ref q0)] 1 t := fun t k => castTop (ef_taken_f m q0 ) k
  obtain ⟨S_EMPTY_ELEMENTDATA, E_EMPTY_ELEMENTDATA, S_DEFAULTCAPACITY_EMPTY_ELEMENTDATA, E_DEFAULTCAPACITY_EMPTY_ELEMENTDATA, S_cache, E_cache, S_TRUE, E_TRUE, F_TRUE_value, S_MILLISECONDS, E_MILLISECONDS, F_MILLISECONDS_name, E_MILLISECONDS_name, F_MILLISECONDS_ordinal, F_MILLISECONDS_scale, F_MILLISECONDS_maxNanos, F_MILLISECONDS_microRatio, F_MILLISECONDS_maxMicros, F_MILLISECONDS_milliRatio, F_MILLISECONDS_maxMillis, F_MILLISECONDS_secRatio, F_MILLISECONDS_maxSecs, S_FALSE, E_FALSE, F_FALSE_value, C_EMPTY_ELEMENTDATA, C_DEFAULTCAPACITY_EMPTY_ELEMENTDATA, B_cache⟩ := (id hE : EV Z a_EMPTY_ELEMENTDATA a_DEFAULTCAPACITY_EMPTY_ELEMENTDATA a_cache a_TRUE a_MILLISECONDS a_MILLISECONDS_name a_FALSE cl_cache)
  obtain ⟨k_DEF, A_DEF⟩ := C_DEFAULTCAPACITY_EMPTY_ELEMENTDATA.arv
  obtain ⟨T10, X10, e10, st10⟩ := getF X00 hx hZ hown (host := "") (Or.inl (own_w hw 117 rfl)) Via.refl e00 F0 (g := (mkF m 1 #[.val (.ref q0)] [(.ref q0)])) rfl rfl (hb hby d_prog_5_method_5_code_1)
  have k11 : ∀ t, own_At p e below m T10 14 #[.val (.ref q0)] [(.int (0 : Int32))] t → own_En p e below m s₁ #[(.ref q0)] 1 t := by
    intro t k
    refine k00 t ?_
    refine XS.aloadN X00.here hx rfl (hb hby d_prog_5_method_5_code_0) rfl rfl ?_
    show own_At p e below m s₁ 1 #[.val (.ref q0)] [(.ref q0)] t
    refine st10 _ ?_
    show own_At p e below m T10 4 #[.val (.ref q0)] [(.long p0)] t
    refine XS.lconst X10.here hx rfl (hb hby d_prog_5_method_5_code_4) ?_
    show own_At p e below m T10 5 #[.val (.ref q0)] [(.long (0 : Int64)), (.long p0)] t
    refine XS.lcmp X10.here hx rfl (hb hby d_prog_5_method_5_code_5) rfl ?_
    show own_At p e below m T10 6 #[.val (.ref q0)] [(.int (lcmpW p0 (0 : Int64)))] t
    refine XS.ifYes X10.here hx rfl (pc0 := 6) (pc' := 13) rfl (hb hby d_prog_5_method_5_code_6) rfl ((if0 _ _).trans (flt hgt).2.2.2) (by decide) (by decide) ?_
    show own_At p e below m T10 13 #[.val (.ref q0)] [] t
    refine XS.iconst X10.here hx rfl (hb hby d_prog_5_method_5_code_13) ?_
    show own_At p e below m T10 14 #[.val (.ref q0)] [(.int (0 : Int32))] t
    exact k
  obtain ⟨fs, hr, hrun, hended, hW, hsame⟩ := X10.leave (v := some (.int (0 : Int32))) (fun h => by rw [Bd.returns] at h; cases h)
  refine hNG ⟨_, _, k11 _ ?_, hrun, hended, _, _, rfl, ?_, ⟨_, rfl⟩, hW, hsame.mono (by decide) (by decide)⟩
  · exact retN X10 hx (t := .boolean) Bd.returns (by simp) (hb hby d_prog_5_method_5_code_14) hr
  · show Q_taken_f Z q0 p0 a_EMPTY_ELEMENTDATA a_DEFAULTCAPACITY_EMPTY_ELEMENTDATA a_cache a_TRUE a_MILLISECONDS a_MILLISECONDS_name a_FALSE cl_cache h0 n0 _ T10.heap _
    rw [e10]
    exact ⟨rfl, N00, rfl⟩
theorem ef_heldB (m : MethodId) (x0 : Addr)  : entryFrame m #[(.ref x0)] 1 = mkF m 0 #[.val (.ref x0)] [] := by first | (simp [entryFrame, mkF, argsToLocals, Value.category]; done) | rfl
theorem d_prog_5_method_7_code_0 : decode prog_5_method_7_code 0 = .ok (.aload_n 0, 1) := by decide +kernel
theorem d_prog_5_method_7_code_1 : decode prog_5_method_7_code 1 = .ok (.getfield 16, 3) := by decide +kernel
theorem d_prog_5_method_7_code_4 : decode prog_5_method_7_code 4 = .ok (.areturn, 1) := by decide +kernel
abbrev own_m21 : MethodName := ⟨"com/example/plus1/plus1/Take", "heldBefore", "()Ljava/lang/Boolean;"⟩
def Q_heldB (Z : State) (q0 : Addr) (r0 : Addr) (a_EMPTY_ELEMENTDATA : Addr) (a_DEFAULTCAPACITY_EMPTY_ELEMENTDATA : Addr) (a_cache : Addr) (a_TRUE : Addr) (a_MILLISECONDS : Addr) (a_MILLISECONDS_name : Addr) (a_FALSE : Addr) (cl_cache : Cell) (h0 : Heap) (n0 : Nat) (v : Option Value) (h : Heap) (L : List Loc) : Prop := v = some (.ref r0) ∧ Fr n0 L ∧ h = h0
set_option maxRecDepth 65536 in
set_option maxHeartbeats 40000000 in
theorem rm_heldB (l : Launch) (Z : State) (a0 : Array Value) (hw : ∀ d ∈ tables_1, d.before a0 Z = true) (ws : List Jvm.Cond) (q0 : Addr) (r0 : Addr) (a_EMPTY_ELEMENTDATA : Addr) (a_DEFAULTCAPACITY_EMPTY_ELEMENTDATA : Addr) (a_cache : Addr) (a_TRUE : Addr) (a_MILLISECONDS : Addr) (a_MILLISECONDS_name : Addr) (a_FALSE : Addr) (cl_cache : Cell) (h0 : Heap) (n0 : Nat) (O0 : Old Z n0 h0) (hE : EV Z a_EMPTY_ELEMENTDATA a_DEFAULTCAPACITY_EMPTY_ELEMENTDATA a_cache a_TRUE a_MILLISECONDS a_MILLISECONDS_name a_FALSE cl_cache) (F0 : Fld Z h0 q0 "com/example/plus1/plus1/Take" "heldBefore" "Ljava/lang/Boolean;" (.ref r0)) :
    MetFree l own_m21 (head1 (Jvm.Cond.code own_m21 prog_5_method_7_code 1 (some (.object "java/lang/Boolean")) :: ws) ({ frames := 0, cells := 0, slots := 0, locals := 0 } : Room)) (fun a U => a = #[(.ref q0)] ∧ Z.Warmed39 U.vm ∧ U.heap = h0) (fun _ _ _ _ _ => True) (fun _ U o U' => ∃ v L, o = .returned v ∧ Q_heldB Z q0 r0 a_EMPTY_ELEMENTDATA a_DEFAULTCAPACITY_EMPTY_ELEMENTDATA a_cache a_TRUE a_MILLISECONDS a_MILLISECONDS_name a_FALSE cl_cache h0 n0 v U'.heap L ∧ FrameEnd U o U' L ({ frames := 0, cells := 0, slots := 0, locals := 0 } : Room).cells ({ frames := 0, cells := 0, slots := 0, locals := 0 } : Room).slots) := by
  refine MetFree.of_bodySF (plainFor_of_name pn_com_example_plus1_plus1_Take) hisR ?_
  intro p e s m args below meth c s₁ Bd hml0 hP hK
  obtain ⟨rfl, hZ, hh⟩ := hP
  have hx := Bd.exec
  have hby := Bd.bytes
  have hml : c.maxLocals = 1 := hml0
  have hown : s.vm.findClass "com/example/plus1/plus1/Take" = some m.cls := findClass_of_methodNamed Bd.named
  have hnm := (name_of_methodNamed Bd.named Bd.method).1
  have X00 : Stand p l e ({ frames := 0, cells := 0, slots := 0, locals := 0 } : Room) s m #[(.ref q0)] below meth c s₁ [] 0 0 := Stand.of_body Bd
  have e00 : s₁.heap = h0 := by rw [← hh, Bd.state]; rfl
  have N00 := Fr.nil n0
  refine Classical.byContradiction fun hNG => ?_
  have K00 := Keep.refl h0 []
  have k00 : ∀ t, own_At p e below m s₁ 0 #[.val (.ref q0)] [] t → own_En p e below m s₁ #[(.ref q0)] 1 t := fun t k => castTop (ef_heldB m q0 ) k
  obtain ⟨S_EMPTY_ELEMENTDATA, E_EMPTY_ELEMENTDATA, S_DEFAULTCAPACITY_EMPTY_ELEMENTDATA, E_DEFAULTCAPACITY_EMPTY_ELEMENTDATA, S_cache, E_cache, S_TRUE, E_TRUE, F_TRUE_value, S_MILLISECONDS, E_MILLISECONDS, F_MILLISECONDS_name, E_MILLISECONDS_name, F_MILLISECONDS_ordinal, F_MILLISECONDS_scale, F_MILLISECONDS_maxNanos, F_MILLISECONDS_microRatio, F_MILLISECONDS_maxMicros, F_MILLISECONDS_milliRatio, F_MILLISECONDS_maxMillis, F_MILLISECONDS_secRatio, F_MILLISECONDS_maxSecs, S_FALSE, E_FALSE, F_FALSE_value, C_EMPTY_ELEMENTDATA, C_DEFAULTCAPACITY_EMPTY_ELEMENTDATA, B_cache⟩ := (id hE : EV Z a_EMPTY_ELEMENTDATA a_DEFAULTCAPACITY_EMPTY_ELEMENTDATA a_cache a_TRUE a_MILLISECONDS a_MILLISECONDS_name a_FALSE cl_cache)
  obtain ⟨k_DEF, A_DEF⟩ := C_DEFAULTCAPACITY_EMPTY_ELEMENTDATA.arv
  obtain ⟨T10, X10, e10, st10⟩ := getF X00 hx hZ hown (host := "") (Or.inl (own_w hw 121 rfl)) Via.refl e00 F0 (g := (mkF m 1 #[.val (.ref q0)] [(.ref q0)])) rfl rfl (hb hby d_prog_5_method_7_code_1)
  have k11 : ∀ t, own_At p e below m T10 4 #[.val (.ref q0)] [(.ref r0)] t → own_En p e below m s₁ #[(.ref q0)] 1 t := by
    intro t k
    refine k00 t ?_
    refine XS.aloadN X00.here hx rfl (hb hby d_prog_5_method_7_code_0) rfl rfl ?_
    show own_At p e below m s₁ 1 #[.val (.ref q0)] [(.ref q0)] t
    refine st10 _ ?_
    show own_At p e below m T10 4 #[.val (.ref q0)] [(.ref r0)] t
    exact k
  obtain ⟨fs, hr, hrun, hended, hW, hsame⟩ := X10.leave (v := some (.ref r0)) (fun h => by rw [Bd.returns] at h; cases h)
  refine hNG ⟨_, _, k11 _ ?_, hrun, hended, _, _, rfl, ?_, ⟨_, rfl⟩, hW, hsame.mono (by decide) (by decide)⟩
  · exact retOut X10 hx (t := (.object "java/lang/Boolean")) Bd.returns rfl (Or.inr (Or.inr (Or.inr (Or.inr ⟨rfl, rfl, rfl⟩)))) (hb hby d_prog_5_method_7_code_4) hr
  · show Q_heldB Z q0 r0 a_EMPTY_ELEMENTDATA a_DEFAULTCAPACITY_EMPTY_ELEMENTDATA a_cache a_TRUE a_MILLISECONDS a_MILLISECONDS_name a_FALSE cl_cache h0 n0 _ T10.heap _
    rw [e10]
    exact ⟨rfl, N00, rfl⟩
theorem own_j1 : (1 : Int64).toInt = 1 := by decide
theorem own_jm : (9223372036854 : Int64).toInt = 9223372036854 := by decide
theorem own_jn : (-9223372036854 : Int64).toInt = -9223372036854 := by decide
theorem own_jM : (9223372036854775807 : Int64).toInt = 9223372036854775807 := by decide
theorem own_j0 : (0 : Int64).toInt = 0 := by decide
theorem own_low {p : Int64} (h1 : ¬ ((lcmpW p (9223372036854775807 : Int64)) = (0 : Int32))) (h2 : ¬ ((lcmpW p (0 : Int64)) < (0 : Int32))) : ¬ ((lcmpW (p + (1 : Int64)) (-9223372036854 : Int64)) < (0 : Int32)) := by
  rw [lw_eq] at h1
  rw [lw_lt, Int64.lt_iff_toInt_lt, own_j0] at h2
  rw [lw_lt, Int64.lt_iff_toInt_lt, own_jn]
  have a1 := c_ladd p 1
  have a2 := rng64 p
  have a3 := rng64 (p + 1)
  have a4 : ¬ p.toInt = 9223372036854775807 := fun q => h1 (Int64.toInt_inj.mp (q.trans own_jM.symm))
  rw [own_j1] at a1
  omega
theorem ef_tn_t (m : MethodId) (x0 : Addr) (x1 : Int64)  : entryFrame m #[(.ref x0), (.long x1)] 7 = mkF m 0 #[.val (.ref x0), .val (.long x1), .second, .unset, .unset, .unset, .unset] [] := by first | (simp [entryFrame, mkF, argsToLocals, Value.category]; done) | rfl
theorem d_jdk_2799_method_7_code_0 : decode jdk_2799_method_7_code 0 = .ok (.aload_n 0, 1) := by decide +kernel
theorem d_jdk_2799_method_7_code_1 : decode jdk_2799_method_7_code 1 = .ok (.getfield 44, 3) := by decide +kernel
theorem d_jdk_2799_method_7_code_4 : decode jdk_2799_method_7_code 4 = .ok (.dup2, 1) := by decide +kernel
theorem d_jdk_2799_method_7_code_5 : decode jdk_2799_method_7_code 5 = .ok (.lstore_n 3, 1) := by decide +kernel
theorem d_jdk_2799_method_7_code_6 : decode jdk_2799_method_7_code 6 = .ok (.lconst 1, 1) := by decide +kernel
theorem d_jdk_2799_method_7_code_7 : decode jdk_2799_method_7_code 7 = .ok (.lcmp, 1) := by decide +kernel
theorem d_jdk_2799_method_7_code_8 : decode jdk_2799_method_7_code 8 = .ok (.ifCond .ne 5, 3) := by decide +kernel
theorem d_jdk_2799_method_7_code_13 : decode jdk_2799_method_7_code 13 = .ok (.lload_n 1, 1) := by decide +kernel
theorem d_jdk_2799_method_7_code_14 : decode jdk_2799_method_7_code 14 = .ok (.aload_n 0, 1) := by decide +kernel
theorem d_jdk_2799_method_7_code_15 : decode jdk_2799_method_7_code 15 = .ok (.getfield 52, 3) := by decide +kernel
theorem d_jdk_2799_method_7_code_18 : decode jdk_2799_method_7_code 18 = .ok (.dup2, 1) := by decide +kernel
theorem d_jdk_2799_method_7_code_19 : decode jdk_2799_method_7_code 19 = .ok (.lstore 5, 2) := by decide +kernel
theorem d_jdk_2799_method_7_code_21 : decode jdk_2799_method_7_code 21 = .ok (.lcmp, 1) := by decide +kernel
theorem d_jdk_2799_method_7_code_22 : decode jdk_2799_method_7_code 22 = .ok (.ifCond .le 7, 3) := by decide +kernel
theorem d_jdk_2799_method_7_code_25 : decode jdk_2799_method_7_code 25 = .ok (.ldc2_w 50, 3) := by decide +kernel
theorem d_jdk_2799_method_7_code_28 : decode jdk_2799_method_7_code 28 = .ok (.lreturn, 1) := by decide +kernel
theorem pn_java_util_concurrent_TimeUnit : plainName "java/util/concurrent/TimeUnit" = true := by first | (simp [plainName, overriddenIn]; done) | decide +kernel
abbrev own_m22 : MethodName := ⟨"java/util/concurrent/TimeUnit", "toNanos", "(J)J"⟩
def Q_tn_t (Z : State) (p1 : Int64) (a_EMPTY_ELEMENTDATA : Addr) (a_DEFAULTCAPACITY_EMPTY_ELEMENTDATA : Addr) (a_cache : Addr) (a_TRUE : Addr) (a_MILLISECONDS : Addr) (a_MILLISECONDS_name : Addr) (a_FALSE : Addr) (cl_cache : Cell) (h0 : Heap) (n0 : Nat) (v : Option Value) (h : Heap) (L : List Loc) : Prop := v = some (.long (9223372036854775807 : Int64)) ∧ Fr n0 L ∧ h = h0
set_option maxRecDepth 65536 in
set_option maxHeartbeats 40000000 in
theorem rm_tn_t (l : Launch) (Z : State) (a0 : Array Value) (hw : ∀ d ∈ tables_1, d.before a0 Z = true) (ws : List Jvm.Cond) (p1 : Int64) (a_EMPTY_ELEMENTDATA : Addr) (a_DEFAULTCAPACITY_EMPTY_ELEMENTDATA : Addr) (a_cache : Addr) (a_TRUE : Addr) (a_MILLISECONDS : Addr) (a_MILLISECONDS_name : Addr) (a_FALSE : Addr) (cl_cache : Cell) (h0 : Heap) (n0 : Nat) (O0 : Old Z n0 h0) (hE : EV Z a_EMPTY_ELEMENTDATA a_DEFAULTCAPACITY_EMPTY_ELEMENTDATA a_cache a_TRUE a_MILLISECONDS a_MILLISECONDS_name a_FALSE cl_cache) (hgt : (0 : Int32) < (lcmpW (p1 + (1 : Int64)) (9223372036854 : Int64))) (hl : ¬ ((lcmpW (p1 + (1 : Int64)) (-9223372036854 : Int64)) < (0 : Int32))) :
    MetFree l own_m22 (head1 (Jvm.Cond.code own_m22 jdk_2799_method_7_code 7 (some .long) :: ws) ({ frames := 0, cells := 0, slots := 0, locals := 0 } : Room)) (fun a U => a = #[(.ref a_MILLISECONDS), (.long (p1 + (1 : Int64)))] ∧ Z.Warmed39 U.vm ∧ U.heap = h0) (fun _ _ _ _ _ => True) (fun _ U o U' => ∃ v L, o = .returned v ∧ Q_tn_t Z p1 a_EMPTY_ELEMENTDATA a_DEFAULTCAPACITY_EMPTY_ELEMENTDATA a_cache a_TRUE a_MILLISECONDS a_MILLISECONDS_name a_FALSE cl_cache h0 n0 v U'.heap L ∧ FrameEnd U o U' L ({ frames := 0, cells := 0, slots := 0, locals := 0 } : Room).cells ({ frames := 0, cells := 0, slots := 0, locals := 0 } : Room).slots) := by
  refine MetFree.of_bodySF (plainFor_of_name pn_java_util_concurrent_TimeUnit) hisR ?_
  intro p e s m args below meth c s₁ Bd hml0 hP hK
  obtain ⟨rfl, hZ, hh⟩ := hP
  have hx := Bd.exec
  have hby := Bd.bytes
  have hml : c.maxLocals = 7 := hml0
  have hown : s.vm.findClass "java/util/concurrent/TimeUnit" = some m.cls := findClass_of_methodNamed Bd.named
  have hnm := (name_of_methodNamed Bd.named Bd.method).1
  have X00 : Stand p l e ({ frames := 0, cells := 0, slots := 0, locals := 0 } : Room) s m #[(.ref a_MILLISECONDS), (.long (p1 + (1 : Int64)))] below meth c s₁ [] 0 0 := Stand.of_body Bd
  have e00 : s₁.heap = h0 := by rw [← hh, Bd.state]; rfl
  have N00 := Fr.nil n0
  refine Classical.byContradiction fun hNG => ?_
  have K00 := Keep.refl h0 []
  have k00 : ∀ t, own_At p e below m s₁ 0 #[.val (.ref a_MILLISECONDS), .val (.long (p1 + (1 : Int64))), .second, .unset, .unset, .unset, .unset] [] t → own_En p e below m s₁ #[(.ref a_MILLISECONDS), (.long (p1 + (1 : Int64)))] 7 t := fun t k => castTop (ef_tn_t m a_MILLISECONDS ((p1 + (1 : Int64))) ) k
  obtain ⟨S_EMPTY_ELEMENTDATA, E_EMPTY_ELEMENTDATA, S_DEFAULTCAPACITY_EMPTY_ELEMENTDATA, E_DEFAULTCAPACITY_EMPTY_ELEMENTDATA, S_cache, E_cache, S_TRUE, E_TRUE, F_TRUE_value, S_MILLISECONDS, E_MILLISECONDS, F_MILLISECONDS_name, E_MILLISECONDS_name, F_MILLISECONDS_ordinal, F_MILLISECONDS_scale, F_MILLISECONDS_maxNanos, F_MILLISECONDS_microRatio, F_MILLISECONDS_maxMicros, F_MILLISECONDS_milliRatio, F_MILLISECONDS_maxMillis, F_MILLISECONDS_secRatio, F_MILLISECONDS_maxSecs, S_FALSE, E_FALSE, F_FALSE_value, C_EMPTY_ELEMENTDATA, C_DEFAULTCAPACITY_EMPTY_ELEMENTDATA, B_cache⟩ := (id hE : EV Z a_EMPTY_ELEMENTDATA a_DEFAULTCAPACITY_EMPTY_ELEMENTDATA a_cache a_TRUE a_MILLISECONDS a_MILLISECONDS_name a_FALSE cl_cache)
  obtain ⟨k_DEF, A_DEF⟩ := C_DEFAULTCAPACITY_EMPTY_ELEMENTDATA.arv
  obtain ⟨T10, X10, e10, st10⟩ := getF X00 hx hZ hown (host := "") (Or.inl (own_w hw 158 rfl)) Via.refl e00 (F_MILLISECONDS_scale.ext O0.2) (g := (mkF m 1 #[.val (.ref a_MILLISECONDS), .val (.long (p1 + (1 : Int64))), .second, .unset, .unset, .unset, .unset] [(.ref a_MILLISECONDS)])) rfl rfl (hb hby d_jdk_2799_method_7_code_1)
  obtain ⟨T11, X11, e11, st11⟩ := getF X10 hx hZ hown (host := "") (Or.inl (own_w hw 160 rfl)) Via.refl e10 (F_MILLISECONDS_maxNanos.ext O0.2) (g := (mkF m 15 #[.val (.ref a_MILLISECONDS), .val (.long (p1 + (1 : Int64))), .second, .val (.long (1000000 : Int64)), .second, .unset, .unset] [(.ref a_MILLISECONDS), (.long (p1 + (1 : Int64)))])) rfl rfl (hb hby d_jdk_2799_method_7_code_15)
  have k12 : ∀ t, own_At p e below m T11 28 #[.val (.ref a_MILLISECONDS), .val (.long (p1 + (1 : Int64))), .second, .val (.long (1000000 : Int64)), .second, .val (.long (9223372036854 : Int64)), .second] [(.long (9223372036854775807 : Int64))] t → own_En p e below m s₁ #[(.ref a_MILLISECONDS), (.long (p1 + (1 : Int64)))] 7 t := by
    intro t k
    refine k00 t ?_
    refine XS.aloadN X00.here hx rfl (hb hby d_jdk_2799_method_7_code_0) rfl rfl ?_
    show own_At p e below m s₁ 1 #[.val (.ref a_MILLISECONDS), .val (.long (p1 + (1 : Int64))), .second, .unset, .unset, .unset, .unset] [(.ref a_MILLISECONDS)] t
    refine st10 _ ?_
    show own_At p e below m T10 4 #[.val (.ref a_MILLISECONDS), .val (.long (p1 + (1 : Int64))), .second, .unset, .unset, .unset, .unset] [(.long (1000000 : Int64))] t
    refine own_dup2L X10.here hx rfl (hb hby d_jdk_2799_method_7_code_4) rfl ?_
    show own_At p e below m T10 5 #[.val (.ref a_MILLISECONDS), .val (.long (p1 + (1 : Int64))), .second, .unset, .unset, .unset, .unset] [(.long (1000000 : Int64)), (.long (1000000 : Int64))] t
    refine XS.lstoreN X10.here hx rfl (hb hby d_jdk_2799_method_7_code_5) rfl (l' := #[.val (.ref a_MILLISECONDS), .val (.long (p1 + (1 : Int64))), .second, .val (.long (1000000 : Int64)), .second, .unset, .unset]) rfl ?_
    show own_At p e below m T10 6 #[.val (.ref a_MILLISECONDS), .val (.long (p1 + (1 : Int64))), .second, .val (.long (1000000 : Int64)), .second, .unset, .unset] [(.long (1000000 : Int64))] t
    refine XS.lconst X10.here hx rfl (hb hby d_jdk_2799_method_7_code_6) ?_
    show own_At p e below m T10 7 #[.val (.ref a_MILLISECONDS), .val (.long (p1 + (1 : Int64))), .second, .val (.long (1000000 : Int64)), .second, .unset, .unset] [(.long (1 : Int64)), (.long (1000000 : Int64))] t
    refine XS.lcmp X10.here hx rfl (hb hby d_jdk_2799_method_7_code_7) rfl ?_
    show own_At p e below m T10 8 #[.val (.ref a_MILLISECONDS), .val (.long (p1 + (1 : Int64))), .second, .val (.long (1000000 : Int64)), .second, .unset, .unset] [(.int (lcmpW (1000000 : Int64) (1 : Int64)))] t
    rw [show (lcmpW (1000000 : Int64) (1 : Int64)) = (1 : Int32) from by decide]
    show own_At p e below m T10 8 #[.val (.ref a_MILLISECONDS), .val (.long (p1 + (1 : Int64))), .second, .val (.long (1000000 : Int64)), .second, .unset, .unset] [(.int (1 : Int32))] t
    refine XS.ifYes X10.here hx rfl (pc0 := 8) (pc' := 13) rfl (hb hby d_jdk_2799_method_7_code_8) rfl ((if0 _ _).trans (feq (by decide : ¬ ((1 : Int32) = (0 : Int32)))).2) (by decide) (by decide) ?_
    show own_At p e below m T10 13 #[.val (.ref a_MILLISECONDS), .val (.long (p1 + (1 : Int64))), .second, .val (.long (1000000 : Int64)), .second, .unset, .unset] [] t
    refine XS.lloadN X10.here hx rfl (hb hby d_jdk_2799_method_7_code_13) rfl ?_
    show own_At p e below m T10 14 #[.val (.ref a_MILLISECONDS), .val (.long (p1 + (1 : Int64))), .second, .val (.long (1000000 : Int64)), .second, .unset, .unset] [(.long (p1 + (1 : Int64)))] t
    refine XS.aloadN X10.here hx rfl (hb hby d_jdk_2799_method_7_code_14) rfl rfl ?_
    show own_At p e below m T10 15 #[.val (.ref a_MILLISECONDS), .val (.long (p1 + (1 : Int64))), .second, .val (.long (1000000 : Int64)), .second, .unset, .unset] [(.ref a_MILLISECONDS), (.long (p1 + (1 : Int64)))] t
    refine st11 _ ?_
    show own_At p e below m T11 18 #[.val (.ref a_MILLISECONDS), .val (.long (p1 + (1 : Int64))), .second, .val (.long (1000000 : Int64)), .second, .unset, .unset] [(.long (9223372036854 : Int64)), (.long (p1 + (1 : Int64)))] t
    refine own_dup2L X11.here hx rfl (hb hby d_jdk_2799_method_7_code_18) rfl ?_
    show own_At p e below m T11 19 #[.val (.ref a_MILLISECONDS), .val (.long (p1 + (1 : Int64))), .second, .val (.long (1000000 : Int64)), .second, .unset, .unset] [(.long (9223372036854 : Int64)), (.long (9223372036854 : Int64)), (.long (p1 + (1 : Int64)))] t
    refine XS.lstore X11.here hx rfl (hb hby d_jdk_2799_method_7_code_19) rfl (l' := #[.val (.ref a_MILLISECONDS), .val (.long (p1 + (1 : Int64))), .second, .val (.long (1000000 : Int64)), .second, .val (.long (9223372036854 : Int64)), .second]) rfl ?_
    show own_At p e below m T11 21 #[.val (.ref a_MILLISECONDS), .val (.long (p1 + (1 : Int64))), .second, .val (.long (1000000 : Int64)), .second, .val (.long (9223372036854 : Int64)), .second] [(.long (9223372036854 : Int64)), (.long (p1 + (1 : Int64)))] t
    refine XS.lcmp X11.here hx rfl (hb hby d_jdk_2799_method_7_code_21) rfl ?_
    show own_At p e below m T11 22 #[.val (.ref a_MILLISECONDS), .val (.long (p1 + (1 : Int64))), .second, .val (.long (1000000 : Int64)), .second, .val (.long (9223372036854 : Int64)), .second] [(.int (lcmpW (p1 + (1 : Int64)) (9223372036854 : Int64)))] t
    refine XS.ifNo X11.here hx rfl (hb hby d_jdk_2799_method_7_code_22) rfl ((if0 _ _).trans (tlt hgt).2.2.2) ?_
    show own_At p e below m T11 25 #[.val (.ref a_MILLISECONDS), .val (.long (p1 + (1 : Int64))), .second, .val (.long (1000000 : Int64)), .second, .val (.long (9223372036854 : Int64)), .second] [] t
    refine X11.ldc2J hx hown (mvT hZ (own_w hw 180 rfl)) rfl (hb hby d_jdk_2799_method_7_code_25) ?_
    show own_At p e below m T11 28 #[.val (.ref a_MILLISECONDS), .val (.long (p1 + (1 : Int64))), .second, .val (.long (1000000 : Int64)), .second, .val (.long (9223372036854 : Int64)), .second] [(.long (9223372036854775807 : Int64))] t
    exact k
  obtain ⟨fs, hr, hrun, hended, hW, hsame⟩ := X11.leave (v := some (.long (9223372036854775807 : Int64))) (fun h => by rw [Bd.returns] at h; cases h)
  refine hNG ⟨_, _, k12 _ ?_, hrun, hended, _, _, rfl, ?_, ⟨_, rfl⟩, hW, hsame.mono (by decide) (by decide)⟩
  · exact retOut X11 hx (t := .long) Bd.returns rfl (Or.inr (Or.inl ⟨rfl, rfl, _, rfl⟩)) (hb hby d_jdk_2799_method_7_code_28) hr
  · show Q_tn_t Z p1 a_EMPTY_ELEMENTDATA a_DEFAULTCAPACITY_EMPTY_ELEMENTDATA a_cache a_TRUE a_MILLISECONDS a_MILLISECONDS_name a_FALSE cl_cache h0 n0 _ T11.heap _
    rw [e11]
    exact ⟨rfl, N00, rfl⟩
theorem ef_tn_f (m : MethodId) (x0 : Addr) (x1 : Int64)  : entryFrame m #[(.ref x0), (.long x1)] 7 = mkF m 0 #[.val (.ref x0), .val (.long x1), .second, .unset, .unset, .unset, .unset] [] := by first | (simp [entryFrame, mkF, argsToLocals, Value.category]; done) | rfl
theorem d_jdk_2799_method_7_code_29 : decode jdk_2799_method_7_code 29 = .ok (.lload_n 1, 1) := by decide +kernel
theorem d_jdk_2799_method_7_code_30 : decode jdk_2799_method_7_code 30 = .ok (.lload 5, 2) := by decide +kernel
theorem d_jdk_2799_method_7_code_32 : decode jdk_2799_method_7_code 32 = .ok (.lneg, 1) := by decide +kernel
theorem d_jdk_2799_method_7_code_33 : decode jdk_2799_method_7_code 33 = .ok (.lcmp, 1) := by decide +kernel
theorem d_jdk_2799_method_7_code_34 : decode jdk_2799_method_7_code 34 = .ok (.ifCond .ge 7, 3) := by decide +kernel
theorem d_jdk_2799_method_7_code_41 : decode jdk_2799_method_7_code 41 = .ok (.lload_n 1, 1) := by decide +kernel
theorem d_jdk_2799_method_7_code_42 : decode jdk_2799_method_7_code 42 = .ok (.lload_n 3, 1) := by decide +kernel
theorem d_jdk_2799_method_7_code_43 : decode jdk_2799_method_7_code 43 = .ok (.lmul, 1) := by decide +kernel
theorem d_jdk_2799_method_7_code_44 : decode jdk_2799_method_7_code 44 = .ok (.lreturn, 1) := by decide +kernel
def Q_tn_f (Z : State) (p1 : Int64) (a_EMPTY_ELEMENTDATA : Addr) (a_DEFAULTCAPACITY_EMPTY_ELEMENTDATA : Addr) (a_cache : Addr) (a_TRUE : Addr) (a_MILLISECONDS : Addr) (a_MILLISECONDS_name : Addr) (a_FALSE : Addr) (cl_cache : Cell) (h0 : Heap) (n0 : Nat) (v : Option Value) (h : Heap) (L : List Loc) : Prop := v = some (.long ((p1 + (1 : Int64)) * (1000000 : Int64))) ∧ Fr n0 L ∧ h = h0
set_option maxRecDepth 65536 in
set_option maxHeartbeats 40000000 in
theorem rm_tn_f (l : Launch) (Z : State) (a0 : Array Value) (hw : ∀ d ∈ tables_1, d.before a0 Z = true) (ws : List Jvm.Cond) (p1 : Int64) (a_EMPTY_ELEMENTDATA : Addr) (a_DEFAULTCAPACITY_EMPTY_ELEMENTDATA : Addr) (a_cache : Addr) (a_TRUE : Addr) (a_MILLISECONDS : Addr) (a_MILLISECONDS_name : Addr) (a_FALSE : Addr) (cl_cache : Cell) (h0 : Heap) (n0 : Nat) (O0 : Old Z n0 h0) (hE : EV Z a_EMPTY_ELEMENTDATA a_DEFAULTCAPACITY_EMPTY_ELEMENTDATA a_cache a_TRUE a_MILLISECONDS a_MILLISECONDS_name a_FALSE cl_cache) (hgt : ¬ ((0 : Int32) < (lcmpW (p1 + (1 : Int64)) (9223372036854 : Int64)))) (hl : ¬ ((lcmpW (p1 + (1 : Int64)) (-9223372036854 : Int64)) < (0 : Int32))) :
    MetFree l own_m22 (head1 (Jvm.Cond.code own_m22 jdk_2799_method_7_code 7 (some .long) :: ws) ({ frames := 0, cells := 0, slots := 0, locals := 0 } : Room)) (fun a U => a = #[(.ref a_MILLISECONDS), (.long (p1 + (1 : Int64)))] ∧ Z.Warmed39 U.vm ∧ U.heap = h0) (fun _ _ _ _ _ => True) (fun _ U o U' => ∃ v L, o = .returned v ∧ Q_tn_f Z p1 a_EMPTY_ELEMENTDATA a_DEFAULTCAPACITY_EMPTY_ELEMENTDATA a_cache a_TRUE a_MILLISECONDS a_MILLISECONDS_name a_FALSE cl_cache h0 n0 v U'.heap L ∧ FrameEnd U o U' L ({ frames := 0, cells := 0, slots := 0, locals := 0 } : Room).cells ({ frames := 0, cells := 0, slots := 0, locals := 0 } : Room).slots) := by
  refine MetFree.of_bodySF (plainFor_of_name pn_java_util_concurrent_TimeUnit) hisR ?_
  intro p e s m args below meth c s₁ Bd hml0 hP hK
  obtain ⟨rfl, hZ, hh⟩ := hP
  have hx := Bd.exec
  have hby := Bd.bytes
  have hml : c.maxLocals = 7 := hml0
  have hown : s.vm.findClass "java/util/concurrent/TimeUnit" = some m.cls := findClass_of_methodNamed Bd.named
  have hnm := (name_of_methodNamed Bd.named Bd.method).1
  have X00 : Stand p l e ({ frames := 0, cells := 0, slots := 0, locals := 0 } : Room) s m #[(.ref a_MILLISECONDS), (.long (p1 + (1 : Int64)))] below meth c s₁ [] 0 0 := Stand.of_body Bd
  have e00 : s₁.heap = h0 := by rw [← hh, Bd.state]; rfl
  have N00 := Fr.nil n0
  refine Classical.byContradiction fun hNG => ?_
  have K00 := Keep.refl h0 []
  have k00 : ∀ t, own_At p e below m s₁ 0 #[.val (.ref a_MILLISECONDS), .val (.long (p1 + (1 : Int64))), .second, .unset, .unset, .unset, .unset] [] t → own_En p e below m s₁ #[(.ref a_MILLISECONDS), (.long (p1 + (1 : Int64)))] 7 t := fun t k => castTop (ef_tn_f m a_MILLISECONDS ((p1 + (1 : Int64))) ) k
  obtain ⟨S_EMPTY_ELEMENTDATA, E_EMPTY_ELEMENTDATA, S_DEFAULTCAPACITY_EMPTY_ELEMENTDATA, E_DEFAULTCAPACITY_EMPTY_ELEMENTDATA, S_cache, E_cache, S_TRUE, E_TRUE, F_TRUE_value, S_MILLISECONDS, E_MILLISECONDS, F_MILLISECONDS_name, E_MILLISECONDS_name, F_MILLISECONDS_ordinal, F_MILLISECONDS_scale, F_MILLISECONDS_maxNanos, F_MILLISECONDS_microRatio, F_MILLISECONDS_maxMicros, F_MILLISECONDS_milliRatio, F_MILLISECONDS_maxMillis, F_MILLISECONDS_secRatio, F_MILLISECONDS_maxSecs, S_FALSE, E_FALSE, F_FALSE_value, C_EMPTY_ELEMENTDATA, C_DEFAULTCAPACITY_EMPTY_ELEMENTDATA, B_cache⟩ := (id hE : EV Z a_EMPTY_ELEMENTDATA a_DEFAULTCAPACITY_EMPTY_ELEMENTDATA a_cache a_TRUE a_MILLISECONDS a_MILLISECONDS_name a_FALSE cl_cache)
  obtain ⟨k_DEF, A_DEF⟩ := C_DEFAULTCAPACITY_EMPTY_ELEMENTDATA.arv
  obtain ⟨T10, X10, e10, st10⟩ := getF X00 hx hZ hown (host := "") (Or.inl (own_w hw 158 rfl)) Via.refl e00 (F_MILLISECONDS_scale.ext O0.2) (g := (mkF m 1 #[.val (.ref a_MILLISECONDS), .val (.long (p1 + (1 : Int64))), .second, .unset, .unset, .unset, .unset] [(.ref a_MILLISECONDS)])) rfl rfl (hb hby d_jdk_2799_method_7_code_1)
  obtain ⟨T11, X11, e11, st11⟩ := getF X10 hx hZ hown (host := "") (Or.inl (own_w hw 160 rfl)) Via.refl e10 (F_MILLISECONDS_maxNanos.ext O0.2) (g := (mkF m 15 #[.val (.ref a_MILLISECONDS), .val (.long (p1 + (1 : Int64))), .second, .val (.long (1000000 : Int64)), .second, .unset, .unset] [(.ref a_MILLISECONDS), (.long (p1 + (1 : Int64)))])) rfl rfl (hb hby d_jdk_2799_method_7_code_15)
  have k12 : ∀ t, own_At p e below m T11 44 #[.val (.ref a_MILLISECONDS), .val (.long (p1 + (1 : Int64))), .second, .val (.long (1000000 : Int64)), .second, .val (.long (9223372036854 : Int64)), .second] [(.long ((p1 + (1 : Int64)) * (1000000 : Int64)))] t → own_En p e below m s₁ #[(.ref a_MILLISECONDS), (.long (p1 + (1 : Int64)))] 7 t := by
    intro t k
    refine k00 t ?_
    refine XS.aloadN X00.here hx rfl (hb hby d_jdk_2799_method_7_code_0) rfl rfl ?_
    show own_At p e below m s₁ 1 #[.val (.ref a_MILLISECONDS), .val (.long (p1 + (1 : Int64))), .second, .unset, .unset, .unset, .unset] [(.ref a_MILLISECONDS)] t
    refine st10 _ ?_
    show own_At p e below m T10 4 #[.val (.ref a_MILLISECONDS), .val (.long (p1 + (1 : Int64))), .second, .unset, .unset, .unset, .unset] [(.long (1000000 : Int64))] t
    refine own_dup2L X10.here hx rfl (hb hby d_jdk_2799_method_7_code_4) rfl ?_
    show own_At p e below m T10 5 #[.val (.ref a_MILLISECONDS), .val (.long (p1 + (1 : Int64))), .second, .unset, .unset, .unset, .unset] [(.long (1000000 : Int64)), (.long (1000000 : Int64))] t
    refine XS.lstoreN X10.here hx rfl (hb hby d_jdk_2799_method_7_code_5) rfl (l' := #[.val (.ref a_MILLISECONDS), .val (.long (p1 + (1 : Int64))), .second, .val (.long (1000000 : Int64)), .second, .unset, .unset]) rfl ?_
    show own_At p e below m T10 6 #[.val (.ref a_MILLISECONDS), .val (.long (p1 + (1 : Int64))), .second, .val (.long (1000000 : Int64)), .second, .unset, .unset] [(.long (1000000 : Int64))] t
    refine XS.lconst X10.here hx rfl (hb hby d_jdk_2799_method_7_code_6) ?_
    show own_At p e below m T10 7 #[.val (.ref a_MILLISECONDS), .val (.long (p1 + (1 : Int64))), .second, .val (.long (1000000 : Int64)), .second, .unset, .unset] [(.long (1 : Int64)), (.long (1000000 : Int64))] t
    refine XS.lcmp X10.here hx rfl (hb hby d_jdk_2799_method_7_code_7) rfl ?_
    show own_At p e below m T10 8 #[.val (.ref a_MILLISECONDS), .val (.long (p1 + (1 : Int64))), .second, .val (.long (1000000 : Int64)), .second, .unset, .unset] [(.int (lcmpW (1000000 : Int64) (1 : Int64)))] t
    rw [show (lcmpW (1000000 : Int64) (1 : Int64)) = (1 : Int32) from by decide]
    show own_At p e below m T10 8 #[.val (.ref a_MILLISECONDS), .val (.long (p1 + (1 : Int64))), .second, .val (.long (1000000 : Int64)), .second, .unset, .unset] [(.int (1 : Int32))] t
    refine XS.ifYes X10.here hx rfl (pc0 := 8) (pc' := 13) rfl (hb hby d_jdk_2799_method_7_code_8) rfl ((if0 _ _).trans (feq (by decide : ¬ ((1 : Int32) = (0 : Int32)))).2) (by decide) (by decide) ?_
    show own_At p e below m T10 13 #[.val (.ref a_MILLISECONDS), .val (.long (p1 + (1 : Int64))), .second, .val (.long (1000000 : Int64)), .second, .unset, .unset] [] t
    refine XS.lloadN X10.here hx rfl (hb hby d_jdk_2799_method_7_code_13) rfl ?_
    show own_At p e below m T10 14 #[.val (.ref a_MILLISECONDS), .val (.long (p1 + (1 : Int64))), .second, .val (.long (1000000 : Int64)), .second, .unset, .unset] [(.long (p1 + (1 : Int64)))] t
    refine XS.aloadN X10.here hx rfl (hb hby d_jdk_2799_method_7_code_14) rfl rfl ?_
    show own_At p e below m T10 15 #[.val (.ref a_MILLISECONDS), .val (.long (p1 + (1 : Int64))), .second, .val (.long (1000000 : Int64)), .second, .unset, .unset] [(.ref a_MILLISECONDS), (.long (p1 + (1 : Int64)))] t
    refine st11 _ ?_
    show own_At p e below m T11 18 #[.val (.ref a_MILLISECONDS), .val (.long (p1 + (1 : Int64))), .second, .val (.long (1000000 : Int64)), .second, .unset, .unset] [(.long (9223372036854 : Int64)), (.long (p1 + (1 : Int64)))] t
    refine own_dup2L X11.here hx rfl (hb hby d_jdk_2799_method_7_code_18) rfl ?_
    show own_At p e below m T11 19 #[.val (.ref a_MILLISECONDS), .val (.long (p1 + (1 : Int64))), .second, .val (.long (1000000 : Int64)), .second, .unset, .unset] [(.long (9223372036854 : Int64)), (.long (9223372036854 : Int64)), (.long (p1 + (1 : Int64)))] t
    refine XS.lstore X11.here hx rfl (hb hby d_jdk_2799_method_7_code_19) rfl (l' := #[.val (.ref a_MILLISECONDS), .val (.long (p1 + (1 : Int64))), .second, .val (.long (1000000 : Int64)), .second, .val (.long (9223372036854 : Int64)), .second]) rfl ?_
    show own_At p e below m T11 21 #[.val (.ref a_MILLISECONDS), .val (.long (p1 + (1 : Int64))), .second, .val (.long (1000000 : Int64)), .second, .val (.long (9223372036854 : Int64)), .second] [(.long (9223372036854 : Int64)), (.long (p1 + (1 : Int64)))] t
    refine XS.lcmp X11.here hx rfl (hb hby d_jdk_2799_method_7_code_21) rfl ?_
    show own_At p e below m T11 22 #[.val (.ref a_MILLISECONDS), .val (.long (p1 + (1 : Int64))), .second, .val (.long (1000000 : Int64)), .second, .val (.long (9223372036854 : Int64)), .second] [(.int (lcmpW (p1 + (1 : Int64)) (9223372036854 : Int64)))] t
    refine XS.ifYes X11.here hx rfl (pc0 := 22) (pc' := 29) rfl (hb hby d_jdk_2799_method_7_code_22) rfl ((if0 _ _).trans (flt hgt).2.2.2) (by decide) (by decide) ?_
    show own_At p e below m T11 29 #[.val (.ref a_MILLISECONDS), .val (.long (p1 + (1 : Int64))), .second, .val (.long (1000000 : Int64)), .second, .val (.long (9223372036854 : Int64)), .second] [] t
    refine XS.lloadN X11.here hx rfl (hb hby d_jdk_2799_method_7_code_29) rfl ?_
    show own_At p e below m T11 30 #[.val (.ref a_MILLISECONDS), .val (.long (p1 + (1 : Int64))), .second, .val (.long (1000000 : Int64)), .second, .val (.long (9223372036854 : Int64)), .second] [(.long (p1 + (1 : Int64)))] t
    refine XS.lload X11.here hx rfl (hb hby d_jdk_2799_method_7_code_30) rfl ?_
    show own_At p e below m T11 32 #[.val (.ref a_MILLISECONDS), .val (.long (p1 + (1 : Int64))), .second, .val (.long (1000000 : Int64)), .second, .val (.long (9223372036854 : Int64)), .second] [(.long (9223372036854 : Int64)), (.long (p1 + (1 : Int64)))] t
    refine XS.lneg X11.here hx rfl (hb hby d_jdk_2799_method_7_code_32) rfl ?_
    show own_At p e below m T11 33 #[.val (.ref a_MILLISECONDS), .val (.long (p1 + (1 : Int64))), .second, .val (.long (1000000 : Int64)), .second, .val (.long (9223372036854 : Int64)), .second] [(.long (-(9223372036854 : Int64))), (.long (p1 + (1 : Int64)))] t
    rw [show (-(9223372036854 : Int64)) = (-9223372036854 : Int64) from by decide]
    show own_At p e below m T11 33 #[.val (.ref a_MILLISECONDS), .val (.long (p1 + (1 : Int64))), .second, .val (.long (1000000 : Int64)), .second, .val (.long (9223372036854 : Int64)), .second] [(.long (-9223372036854 : Int64)), (.long (p1 + (1 : Int64)))] t
    refine XS.lcmp X11.here hx rfl (hb hby d_jdk_2799_method_7_code_33) rfl ?_
    show own_At p e below m T11 34 #[.val (.ref a_MILLISECONDS), .val (.long (p1 + (1 : Int64))), .second, .val (.long (1000000 : Int64)), .second, .val (.long (9223372036854 : Int64)), .second] [(.int (lcmpW (p1 + (1 : Int64)) (-9223372036854 : Int64)))] t
    refine XS.ifYes X11.here hx rfl (pc0 := 34) (pc' := 41) rfl (hb hby d_jdk_2799_method_7_code_34) rfl ((if0 _ _).trans (flt hl).2.1) (by decide) (by decide) ?_
    show own_At p e below m T11 41 #[.val (.ref a_MILLISECONDS), .val (.long (p1 + (1 : Int64))), .second, .val (.long (1000000 : Int64)), .second, .val (.long (9223372036854 : Int64)), .second] [] t
    refine XS.lloadN X11.here hx rfl (hb hby d_jdk_2799_method_7_code_41) rfl ?_
    show own_At p e below m T11 42 #[.val (.ref a_MILLISECONDS), .val (.long (p1 + (1 : Int64))), .second, .val (.long (1000000 : Int64)), .second, .val (.long (9223372036854 : Int64)), .second] [(.long (p1 + (1 : Int64)))] t
    refine XS.lloadN X11.here hx rfl (hb hby d_jdk_2799_method_7_code_42) rfl ?_
    show own_At p e below m T11 43 #[.val (.ref a_MILLISECONDS), .val (.long (p1 + (1 : Int64))), .second, .val (.long (1000000 : Int64)), .second, .val (.long (9223372036854 : Int64)), .second] [(.long (1000000 : Int64)), (.long (p1 + (1 : Int64)))] t
    refine XS.lmul X11.here hx rfl (hb hby d_jdk_2799_method_7_code_43) rfl ?_
    show own_At p e below m T11 44 #[.val (.ref a_MILLISECONDS), .val (.long (p1 + (1 : Int64))), .second, .val (.long (1000000 : Int64)), .second, .val (.long (9223372036854 : Int64)), .second] [(.long ((p1 + (1 : Int64)) * (1000000 : Int64)))] t
    exact k
  obtain ⟨fs, hr, hrun, hended, hW, hsame⟩ := X11.leave (v := some (.long ((p1 + (1 : Int64)) * (1000000 : Int64)))) (fun h => by rw [Bd.returns] at h; cases h)
  refine hNG ⟨_, _, k12 _ ?_, hrun, hended, _, _, rfl, ?_, ⟨_, rfl⟩, hW, hsame.mono (by decide) (by decide)⟩
  · exact retOut X11 hx (t := .long) Bd.returns rfl (Or.inr (Or.inl ⟨rfl, rfl, _, rfl⟩)) (hb hby d_jdk_2799_method_7_code_44) hr
  · show Q_tn_f Z p1 a_EMPTY_ELEMENTDATA a_DEFAULTCAPACITY_EMPTY_ELEMENTDATA a_cache a_TRUE a_MILLISECONDS a_MILLISECONDS_name a_FALSE cl_cache h0 n0 _ T11.heap _
    rw [e11]
    exact ⟨rfl, N00, rfl⟩
theorem ef_rn_neg (m : MethodId) (x0 : Addr)  : entryFrame m #[(.ref x0)] 1 = mkF m 0 #[.val (.ref x0)] [] := by first | (simp [entryFrame, mkF, argsToLocals, Value.category]; done) | rfl
theorem d_prog_5_method_8_code_0 : decode prog_5_method_8_code 0 = .ok (.aload_n 0, 1) := by decide +kernel
theorem d_prog_5_method_8_code_1 : decode prog_5_method_8_code 1 = .ok (.getfield 13, 3) := by decide +kernel
theorem d_prog_5_method_8_code_4 : decode prog_5_method_8_code 4 = .ok (.lconst 0, 1) := by decide +kernel
theorem d_prog_5_method_8_code_5 : decode prog_5_method_8_code 5 = .ok (.lcmp, 1) := by decide +kernel
theorem d_prog_5_method_8_code_6 : decode prog_5_method_8_code 6 = .ok (.ifCond .ge 9, 3) := by decide +kernel
theorem d_prog_5_method_8_code_9 : decode prog_5_method_8_code 9 = .ok (.ldc2_w 45, 3) := by decide +kernel
theorem d_prog_5_method_8_code_12 : decode prog_5_method_8_code 12 = .ok (.goto 15, 3) := by decide +kernel
theorem d_prog_5_method_8_code_27 : decode prog_5_method_8_code 27 = .ok (.lreturn, 1) := by decide +kernel
abbrev own_m23 : MethodName := ⟨"com/example/plus1/plus1/Take", "retryNanos", "()J"⟩
def Q_rn_neg (Z : State) (q0 : Addr) (p1 : Int64) (a_EMPTY_ELEMENTDATA : Addr) (a_DEFAULTCAPACITY_EMPTY_ELEMENTDATA : Addr) (a_cache : Addr) (a_TRUE : Addr) (a_MILLISECONDS : Addr) (a_MILLISECONDS_name : Addr) (a_FALSE : Addr) (cl_cache : Cell) (h0 : Heap) (n0 : Nat) (v : Option Value) (h : Heap) (L : List Loc) : Prop := v = some (.long (9223372036854775807 : Int64)) ∧ Fr n0 L ∧ h = h0
set_option maxRecDepth 65536 in
set_option maxHeartbeats 40000000 in
theorem rm_rn_neg (l : Launch) (Z : State) (a0 : Array Value) (hw : ∀ d ∈ tables_1, d.before a0 Z = true) (ws : List Jvm.Cond) (q0 : Addr) (p1 : Int64) (a_EMPTY_ELEMENTDATA : Addr) (a_DEFAULTCAPACITY_EMPTY_ELEMENTDATA : Addr) (a_cache : Addr) (a_TRUE : Addr) (a_MILLISECONDS : Addr) (a_MILLISECONDS_name : Addr) (a_FALSE : Addr) (cl_cache : Cell) (h0 : Heap) (n0 : Nat) (O0 : Old Z n0 h0) (hE : EV Z a_EMPTY_ELEMENTDATA a_DEFAULTCAPACITY_EMPTY_ELEMENTDATA a_cache a_TRUE a_MILLISECONDS a_MILLISECONDS_name a_FALSE cl_cache) (F0 : Fld Z h0 q0 "com/example/plus1/plus1/Take" "retryMillis" "J" (.long p1)) (hlt : (lcmpW p1 (0 : Int64)) < (0 : Int32)) :
    MetFree l own_m23 (head1 (Jvm.Cond.code own_m23 prog_5_method_8_code 1 (some .long) :: ws) ({ frames := 0, cells := 0, slots := 0, locals := 0 } : Room)) (fun a U => a = #[(.ref q0)] ∧ Z.Warmed39 U.vm ∧ U.heap = h0) (fun _ _ _ _ _ => True) (fun _ U o U' => ∃ v L, o = .returned v ∧ Q_rn_neg Z q0 p1 a_EMPTY_ELEMENTDATA a_DEFAULTCAPACITY_EMPTY_ELEMENTDATA a_cache a_TRUE a_MILLISECONDS a_MILLISECONDS_name a_FALSE cl_cache h0 n0 v U'.heap L ∧ FrameEnd U o U' L ({ frames := 0, cells := 0, slots := 0, locals := 0 } : Room).cells ({ frames := 0, cells := 0, slots := 0, locals := 0 } : Room).slots) := by
  refine MetFree.of_bodySF (plainFor_of_name pn_com_example_plus1_plus1_Take) hisR ?_
  intro p e s m args below meth c s₁ Bd hml0 hP hK
  obtain ⟨rfl, hZ, hh⟩ := hP
  have hx := Bd.exec
  have hby := Bd.bytes
  have hml : c.maxLocals = 1 := hml0
  have hown : s.vm.findClass "com/example/plus1/plus1/Take" = some m.cls := findClass_of_methodNamed Bd.named
  have hnm := (name_of_methodNamed Bd.named Bd.method).1
  have X00 : Stand p l e ({ frames := 0, cells := 0, slots := 0, locals := 0 } : Room) s m #[(.ref q0)] below meth c s₁ [] 0 0 := Stand.of_body Bd
  have e00 : s₁.heap = h0 := by rw [← hh, Bd.state]; rfl
  have N00 := Fr.nil n0
  refine Classical.byContradiction fun hNG => ?_
  have K00 := Keep.refl h0 []
  have k00 : ∀ t, own_At p e below m s₁ 0 #[.val (.ref q0)] [] t → own_En p e below m s₁ #[(.ref q0)] 1 t := fun t k => castTop (ef_rn_neg m q0 ) k
  obtain ⟨S_EMPTY_ELEMENTDATA, E_EMPTY_ELEMENTDATA, S_DEFAULTCAPACITY_EMPTY_ELEMENTDATA, E_DEFAULTCAPACITY_EMPTY_ELEMENTDATA, S_cache, E_cache, S_TRUE, E_TRUE, F_TRUE_value, S_MILLISECONDS, E_MILLISECONDS, F_MILLISECONDS_name, E_MILLISECONDS_name, F_MILLISECONDS_ordinal, F_MILLISECONDS_scale, F_MILLISECONDS_maxNanos, F_MILLISECONDS_microRatio, F_MILLISECONDS_maxMicros, F_MILLISECONDS_milliRatio, F_MILLISECONDS_maxMillis, F_MILLISECONDS_secRatio, F_MILLISECONDS_maxSecs, S_FALSE, E_FALSE, F_FALSE_value, C_EMPTY_ELEMENTDATA, C_DEFAULTCAPACITY_EMPTY_ELEMENTDATA, B_cache⟩ := (id hE : EV Z a_EMPTY_ELEMENTDATA a_DEFAULTCAPACITY_EMPTY_ELEMENTDATA a_cache a_TRUE a_MILLISECONDS a_MILLISECONDS_name a_FALSE cl_cache)
  obtain ⟨k_DEF, A_DEF⟩ := C_DEFAULTCAPACITY_EMPTY_ELEMENTDATA.arv
  obtain ⟨T10, X10, e10, st10⟩ := getF X00 hx hZ hown (host := "") (Or.inl (own_w hw 119 rfl)) Via.refl e00 F0 (g := (mkF m 1 #[.val (.ref q0)] [(.ref q0)])) rfl rfl (hb hby d_prog_5_method_8_code_1)
  have k11 : ∀ t, own_At p e below m T10 27 #[.val (.ref q0)] [(.long (9223372036854775807 : Int64))] t → own_En p e below m s₁ #[(.ref q0)] 1 t := by
    intro t k
    refine k00 t ?_
    refine XS.aloadN X00.here hx rfl (hb hby d_prog_5_method_8_code_0) rfl rfl ?_
    show own_At p e below m s₁ 1 #[.val (.ref q0)] [(.ref q0)] t
    refine st10 _ ?_
    show own_At p e below m T10 4 #[.val (.ref q0)] [(.long p1)] t
    refine XS.lconst X10.here hx rfl (hb hby d_prog_5_method_8_code_4) ?_
    show own_At p e below m T10 5 #[.val (.ref q0)] [(.long (0 : Int64)), (.long p1)] t
    refine XS.lcmp X10.here hx rfl (hb hby d_prog_5_method_8_code_5) rfl ?_
    show own_At p e below m T10 6 #[.val (.ref q0)] [(.int (lcmpW p1 (0 : Int64)))] t
    refine XS.ifNo X10.here hx rfl (hb hby d_prog_5_method_8_code_6) rfl ((if0 _ _).trans (tlt hlt).2.1) ?_
    show own_At p e below m T10 9 #[.val (.ref q0)] [] t
    refine X10.ldc2J hx hown (mvT hZ (own_w hw 181 rfl)) rfl (hb hby d_prog_5_method_8_code_9) ?_
    show own_At p e below m T10 12 #[.val (.ref q0)] [(.long (9223372036854775807 : Int64))] t
    refine XS.goto X10.here hx rfl (pc0 := 12) (pc' := 27) rfl (hb hby d_prog_5_method_8_code_12) (by decide) (by decide) ?_
    show own_At p e below m T10 27 #[.val (.ref q0)] [(.long (9223372036854775807 : Int64))] t
    exact k
  obtain ⟨fs, hr, hrun, hended, hW, hsame⟩ := X10.leave (v := some (.long (9223372036854775807 : Int64))) (fun h => by rw [Bd.returns] at h; cases h)
  refine hNG ⟨_, _, k11 _ ?_, hrun, hended, _, _, rfl, ?_, ⟨_, rfl⟩, hW, hsame.mono (by decide) (by decide)⟩
  · exact retOut X10 hx (t := .long) Bd.returns rfl (Or.inr (Or.inl ⟨rfl, rfl, _, rfl⟩)) (hb hby d_prog_5_method_8_code_27) hr
  · show Q_rn_neg Z q0 p1 a_EMPTY_ELEMENTDATA a_DEFAULTCAPACITY_EMPTY_ELEMENTDATA a_cache a_TRUE a_MILLISECONDS a_MILLISECONDS_name a_FALSE cl_cache h0 n0 _ T10.heap _
    rw [e10]
    exact ⟨rfl, N00, rfl⟩
theorem ef_rn_t (m : MethodId) (x0 : Addr)  : entryFrame m #[(.ref x0)] 1 = mkF m 0 #[.val (.ref x0)] [] := by first | (simp [entryFrame, mkF, argsToLocals, Value.category]; done) | rfl
theorem d_prog_5_method_8_code_15 : decode prog_5_method_8_code 15 = .ok (.getstatic 47, 3) := by decide +kernel
theorem d_prog_5_method_8_code_18 : decode prog_5_method_8_code 18 = .ok (.aload_n 0, 1) := by decide +kernel
theorem d_prog_5_method_8_code_19 : decode prog_5_method_8_code 19 = .ok (.getfield 13, 3) := by decide +kernel
theorem d_prog_5_method_8_code_22 : decode prog_5_method_8_code 22 = .ok (.lconst 1, 1) := by decide +kernel
theorem d_prog_5_method_8_code_23 : decode prog_5_method_8_code 23 = .ok (.ladd, 1) := by decide +kernel
theorem d_prog_5_method_8_code_24 : decode prog_5_method_8_code 24 = .ok (.invokevirtual 53, 3) := by decide +kernel
theorem pd__J_J : parseMethodDescriptor "(J)J" = some ⟨[.long], some .long⟩ := by decide +kernel
def Q_rn_t (Z : State) (q0 : Addr) (p1 : Int64) (a_EMPTY_ELEMENTDATA : Addr) (a_DEFAULTCAPACITY_EMPTY_ELEMENTDATA : Addr) (a_cache : Addr) (a_TRUE : Addr) (a_MILLISECONDS : Addr) (a_MILLISECONDS_name : Addr) (a_FALSE : Addr) (cl_cache : Cell) (h0 : Heap) (n0 : Nat) (v : Option Value) (h : Heap) (L : List Loc) : Prop := v = some (.long (9223372036854775807 : Int64)) ∧ Fr n0 L ∧ h = h0
set_option maxRecDepth 65536 in
set_option maxHeartbeats 40000000 in
theorem rm_rn_t (l : Launch) (Z : State) (a0 : Array Value) (hw : ∀ d ∈ tables_1, d.before a0 Z = true) (ws : List Jvm.Cond) (q0 : Addr) (p1 : Int64) (a_EMPTY_ELEMENTDATA : Addr) (a_DEFAULTCAPACITY_EMPTY_ELEMENTDATA : Addr) (a_cache : Addr) (a_TRUE : Addr) (a_MILLISECONDS : Addr) (a_MILLISECONDS_name : Addr) (a_FALSE : Addr) (cl_cache : Cell) (h0 : Heap) (n0 : Nat) (O0 : Old Z n0 h0) (hE : EV Z a_EMPTY_ELEMENTDATA a_DEFAULTCAPACITY_EMPTY_ELEMENTDATA a_cache a_TRUE a_MILLISECONDS a_MILLISECONDS_name a_FALSE cl_cache) (F0 : Fld Z h0 q0 "com/example/plus1/plus1/Take" "retryMillis" "J" (.long p1)) (hnq : ¬ ((lcmpW p1 (9223372036854775807 : Int64)) = (0 : Int32))) (hlt : ¬ ((lcmpW p1 (0 : Int64)) < (0 : Int32))) (hgt : (0 : Int32) < (lcmpW (p1 + (1 : Int64)) (9223372036854 : Int64))) :
    MetFree l own_m23 (head1 (Jvm.Cond.code own_m23 prog_5_method_8_code 1 (some .long) :: ws) ({ frames := 1, cells := 0, slots := 0, locals := 18 } : Room)) (fun a U => a = #[(.ref q0)] ∧ Z.Warmed39 U.vm ∧ U.heap = h0) (fun _ _ _ _ _ => True) (fun _ U o U' => ∃ v L, o = .returned v ∧ Q_rn_t Z q0 p1 a_EMPTY_ELEMENTDATA a_DEFAULTCAPACITY_EMPTY_ELEMENTDATA a_cache a_TRUE a_MILLISECONDS a_MILLISECONDS_name a_FALSE cl_cache h0 n0 v U'.heap L ∧ FrameEnd U o U' L ({ frames := 1, cells := 0, slots := 0, locals := 18 } : Room).cells ({ frames := 1, cells := 0, slots := 0, locals := 18 } : Room).slots) := by
  refine MetFree.of_bodySF (plainFor_of_name pn_com_example_plus1_plus1_Take) hisR ?_
  intro p e s m args below meth c s₁ Bd hml0 hP hK
  obtain ⟨rfl, hZ, hh⟩ := hP
  have hx := Bd.exec
  have hby := Bd.bytes
  have hml : c.maxLocals = 1 := hml0
  have hown : s.vm.findClass "com/example/plus1/plus1/Take" = some m.cls := findClass_of_methodNamed Bd.named
  have hnm := (name_of_methodNamed Bd.named Bd.method).1
  have X00 : Stand p l e ({ frames := 1, cells := 0, slots := 0, locals := 18 } : Room) s m #[(.ref q0)] below meth c s₁ [] 0 0 := Stand.of_body Bd
  have e00 : s₁.heap = h0 := by rw [← hh, Bd.state]; rfl
  have N00 := Fr.nil n0
  refine Classical.byContradiction fun hNG => ?_
  have K00 := Keep.refl h0 []
  have k00 : ∀ t, own_At p e below m s₁ 0 #[.val (.ref q0)] [] t → own_En p e below m s₁ #[(.ref q0)] 1 t := fun t k => castTop (ef_rn_t m q0 ) k
  obtain ⟨S_EMPTY_ELEMENTDATA, E_EMPTY_ELEMENTDATA, S_DEFAULTCAPACITY_EMPTY_ELEMENTDATA, E_DEFAULTCAPACITY_EMPTY_ELEMENTDATA, S_cache, E_cache, S_TRUE, E_TRUE, F_TRUE_value, S_MILLISECONDS, E_MILLISECONDS, F_MILLISECONDS_name, E_MILLISECONDS_name, F_MILLISECONDS_ordinal, F_MILLISECONDS_scale, F_MILLISECONDS_maxNanos, F_MILLISECONDS_microRatio, F_MILLISECONDS_maxMicros, F_MILLISECONDS_milliRatio, F_MILLISECONDS_maxMillis, F_MILLISECONDS_secRatio, F_MILLISECONDS_maxSecs, S_FALSE, E_FALSE, F_FALSE_value, C_EMPTY_ELEMENTDATA, C_DEFAULTCAPACITY_EMPTY_ELEMENTDATA, B_cache⟩ := (id hE : EV Z a_EMPTY_ELEMENTDATA a_DEFAULTCAPACITY_EMPTY_ELEMENTDATA a_cache a_TRUE a_MILLISECONDS a_MILLISECONDS_name a_FALSE cl_cache)
  obtain ⟨k_DEF, A_DEF⟩ := C_DEFAULTCAPACITY_EMPTY_ELEMENTDATA.arv
  obtain ⟨T10, X10, e10, st10⟩ := getF X00 hx hZ hown (host := "") (Or.inl (own_w hw 119 rfl)) Via.refl e00 F0 (g := (mkF m 1 #[.val (.ref q0)] [(.ref q0)])) rfl rfl (hb hby d_prog_5_method_8_code_1)
  obtain ⟨T11, X11, e11, st11⟩ := getS2 X10 hx hZ hown (host := "") (Or.inl (own_w hw 151 rfl)) Via.refl e10 (S_MILLISECONDS.ext O0.2) (g := (mkF m 15 #[.val (.ref q0)] [])) rfl (hb hby d_prog_5_method_8_code_15)
  obtain ⟨T12, X12, e12, st12⟩ := getF X11 hx hZ hown (host := "") (Or.inl (own_w hw 119 rfl)) Via.refl e11 F0 (g := (mkF m 19 #[.val (.ref q0)] [(.ref q0), (.ref a_MILLISECONDS)])) rfl rfl (hb hby d_prog_5_method_8_code_19)
  obtain ⟨cq13, kq13, q13a, q13b, q13c⟩ := isOf hZ e12 (E_MILLISECONDS.ext O0.2)
  obtain ⟨_, _, ⟨T13, L13, k13, n13⟩, -, X13, ⟨Lc13, hQ13, l13, y13, z13⟩, st13⟩ := X12.virtualBack hx (y := own_m22) (z := own_m22) hown (mvT hZ (own_w hw 153 rfl)) (mvT hZ (own_w hw 154 rfl)) (notFace_of_selects (args := #[]) (mvT hZ (own_w hw 156 rfl))) (mvT hZ (own_w hw 156 rfl)) (mvT hZ (own_w hw 155 rfl)) (by decide) (backOf (W := 0) (rm_tn_t l Z a0 hw [] p1 _ _ _ _ _ _ _ _ h0 n0 O0 hE hgt (own_low hnq hlt)) hZ (own_w hw 157 rfl) (own_w hw 152 rfl) (by decide) (by decide)) q13a q13c (g := (mkF m 24 #[.val (.ref q0)] [(.long (p1 + (1 : Int64))), (.ref a_MILLISECONDS)])) rfl (by rw [hml]; rfl) (Steps.refl _) (argsL := [(.long (p1 + (1 : Int64)))]) (rest := []) (lenOf pd__J_J rfl) rfl (by show 2 * 0 + _ ≤ _; exact Nat.le_of_eq rfl) (hb hby d_prog_5_method_8_code_24) (fun _ _ => ⟨rfl, e12, (by decide : 0 + 0 ≤ _), (by decide : 0 + 0 ≤ _)⟩)
  dsimp only [Pt.U, Pt.locs, Pt.cells, Pt.slots] at X13 l13 y13 z13 st13 hQ13
  subst l13 y13 z13
  obtain ⟨rfl, N13q, hp13⟩ := hQ13
  have N13 := Fr.app N00 N13q
  have k14 : ∀ t, own_At p e below m T13 27 #[.val (.ref q0)] [(.long (9223372036854775807 : Int64))] t → own_En p e below m s₁ #[(.ref q0)] 1 t := by
    intro t k
    refine k00 t ?_
    refine XS.aloadN X00.here hx rfl (hb hby d_prog_5_method_8_code_0) rfl rfl ?_
    show own_At p e below m s₁ 1 #[.val (.ref q0)] [(.ref q0)] t
    refine st10 _ ?_
    show own_At p e below m T10 4 #[.val (.ref q0)] [(.long p1)] t
    refine XS.lconst X10.here hx rfl (hb hby d_prog_5_method_8_code_4) ?_
    show own_At p e below m T10 5 #[.val (.ref q0)] [(.long (0 : Int64)), (.long p1)] t
    refine XS.lcmp X10.here hx rfl (hb hby d_prog_5_method_8_code_5) rfl ?_
    show own_At p e below m T10 6 #[.val (.ref q0)] [(.int (lcmpW p1 (0 : Int64)))] t
    refine XS.ifYes X10.here hx rfl (pc0 := 6) (pc' := 15) rfl (hb hby d_prog_5_method_8_code_6) rfl ((if0 _ _).trans (flt hlt).2.1) (by decide) (by decide) ?_
    show own_At p e below m T10 15 #[.val (.ref q0)] [] t
    refine st11 _ ?_
    show own_At p e below m T11 18 #[.val (.ref q0)] [(.ref a_MILLISECONDS)] t
    refine XS.aloadN X11.here hx rfl (hb hby d_prog_5_method_8_code_18) rfl rfl ?_
    show own_At p e below m T11 19 #[.val (.ref q0)] [(.ref q0), (.ref a_MILLISECONDS)] t
    refine st12 _ ?_
    show own_At p e below m T12 22 #[.val (.ref q0)] [(.long p1), (.ref a_MILLISECONDS)] t
    refine XS.lconst X12.here hx rfl (hb hby d_prog_5_method_8_code_22) ?_
    show own_At p e below m T12 23 #[.val (.ref q0)] [(.long (1 : Int64)), (.long p1), (.ref a_MILLISECONDS)] t
    refine XS.ladd X12.here hx rfl (hb hby d_prog_5_method_8_code_23) rfl ?_
    show own_At p e below m T12 24 #[.val (.ref q0)] [(.long (p1 + (1 : Int64))), (.ref a_MILLISECONDS)] t
    refine st13.trans ?_
    show own_At p e below m T13 27 #[.val (.ref q0)] [(.long (9223372036854775807 : Int64))] t
    exact k
  obtain ⟨fs, hr, hrun, hended, hW, hsame⟩ := X13.leave (v := some (.long (9223372036854775807 : Int64))) (fun h => by rw [Bd.returns] at h; cases h)
  refine hNG ⟨_, _, k14 _ ?_, hrun, hended, _, _, rfl, ?_, ⟨_, rfl⟩, hW, hsame.mono (by decide) (by decide)⟩
  · exact retOut X13 hx (t := .long) Bd.returns rfl (Or.inr (Or.inl ⟨rfl, rfl, _, rfl⟩)) (hb hby d_prog_5_method_8_code_27) hr
  · show Q_rn_t Z q0 p1 a_EMPTY_ELEMENTDATA a_DEFAULTCAPACITY_EMPTY_ELEMENTDATA a_cache a_TRUE a_MILLISECONDS a_MILLISECONDS_name a_FALSE cl_cache h0 n0 _ T13.heap _
    rw [hp13]
    exact ⟨rfl, N13, rfl⟩
theorem ef_rn_f (m : MethodId) (x0 : Addr)  : entryFrame m #[(.ref x0)] 1 = mkF m 0 #[.val (.ref x0)] [] := by first | (simp [entryFrame, mkF, argsToLocals, Value.category]; done) | rfl
def Q_rn_f (Z : State) (q0 : Addr) (p1 : Int64) (a_EMPTY_ELEMENTDATA : Addr) (a_DEFAULTCAPACITY_EMPTY_ELEMENTDATA : Addr) (a_cache : Addr) (a_TRUE : Addr) (a_MILLISECONDS : Addr) (a_MILLISECONDS_name : Addr) (a_FALSE : Addr) (cl_cache : Cell) (h0 : Heap) (n0 : Nat) (v : Option Value) (h : Heap) (L : List Loc) : Prop := v = some (.long ((p1 + (1 : Int64)) * (1000000 : Int64))) ∧ Fr n0 L ∧ h = h0
set_option maxRecDepth 65536 in
set_option maxHeartbeats 40000000 in
theorem rm_rn_f (l : Launch) (Z : State) (a0 : Array Value) (hw : ∀ d ∈ tables_1, d.before a0 Z = true) (ws : List Jvm.Cond) (q0 : Addr) (p1 : Int64) (a_EMPTY_ELEMENTDATA : Addr) (a_DEFAULTCAPACITY_EMPTY_ELEMENTDATA : Addr) (a_cache : Addr) (a_TRUE : Addr) (a_MILLISECONDS : Addr) (a_MILLISECONDS_name : Addr) (a_FALSE : Addr) (cl_cache : Cell) (h0 : Heap) (n0 : Nat) (O0 : Old Z n0 h0) (hE : EV Z a_EMPTY_ELEMENTDATA a_DEFAULTCAPACITY_EMPTY_ELEMENTDATA a_cache a_TRUE a_MILLISECONDS a_MILLISECONDS_name a_FALSE cl_cache) (F0 : Fld Z h0 q0 "com/example/plus1/plus1/Take" "retryMillis" "J" (.long p1)) (hnq : ¬ ((lcmpW p1 (9223372036854775807 : Int64)) = (0 : Int32))) (hlt : ¬ ((lcmpW p1 (0 : Int64)) < (0 : Int32))) (hgt : ¬ ((0 : Int32) < (lcmpW (p1 + (1 : Int64)) (9223372036854 : Int64)))) :
    MetFree l own_m23 (head1 (Jvm.Cond.code own_m23 prog_5_method_8_code 1 (some .long) :: ws) ({ frames := 1, cells := 0, slots := 0, locals := 18 } : Room)) (fun a U => a = #[(.ref q0)] ∧ Z.Warmed39 U.vm ∧ U.heap = h0) (fun _ _ _ _ _ => True) (fun _ U o U' => ∃ v L, o = .returned v ∧ Q_rn_f Z q0 p1 a_EMPTY_ELEMENTDATA a_DEFAULTCAPACITY_EMPTY_ELEMENTDATA a_cache a_TRUE a_MILLISECONDS a_MILLISECONDS_name a_FALSE cl_cache h0 n0 v U'.heap L ∧ FrameEnd U o U' L ({ frames := 1, cells := 0, slots := 0, locals := 18 } : Room).cells ({ frames := 1, cells := 0, slots := 0, locals := 18 } : Room).slots) := by
  refine MetFree.of_bodySF (plainFor_of_name pn_com_example_plus1_plus1_Take) hisR ?_
  intro p e s m args below meth c s₁ Bd hml0 hP hK
  obtain ⟨rfl, hZ, hh⟩ := hP
  have hx := Bd.exec
  have hby := Bd.bytes
  have hml : c.maxLocals = 1 := hml0
  have hown : s.vm.findClass "com/example/plus1/plus1/Take" = some m.cls := findClass_of_methodNamed Bd.named
  have hnm := (name_of_methodNamed Bd.named Bd.method).1
  have X00 : Stand p l e ({ frames := 1, cells := 0, slots := 0, locals := 18 } : Room) s m #[(.ref q0)] below meth c s₁ [] 0 0 := Stand.of_body Bd
  have e00 : s₁.heap = h0 := by rw [← hh, Bd.state]; rfl
  have N00 := Fr.nil n0
  refine Classical.byContradiction fun hNG => ?_
  have K00 := Keep.refl h0 []
  have k00 : ∀ t, own_At p e below m s₁ 0 #[.val (.ref q0)] [] t → own_En p e below m s₁ #[(.ref q0)] 1 t := fun t k => castTop (ef_rn_f m q0 ) k
  obtain ⟨S_EMPTY_ELEMENTDATA, E_EMPTY_ELEMENTDATA, S_DEFAULTCAPACITY_EMPTY_ELEMENTDATA, E_DEFAULTCAPACITY_EMPTY_ELEMENTDATA, S_cache, E_cache, S_TRUE, E_TRUE, F_TRUE_value, S_MILLISECONDS, E_MILLISECONDS, F_MILLISECONDS_name, E_MILLISECONDS_name, F_MILLISECONDS_ordinal, F_MILLISECONDS_scale, F_MILLISECONDS_maxNanos, F_MILLISECONDS_microRatio, F_MILLISECONDS_maxMicros, F_MILLISECONDS_milliRatio, F_MILLISECONDS_maxMillis, F_MILLISECONDS_secRatio, F_MILLISECONDS_maxSecs, S_FALSE, E_FALSE, F_FALSE_value, C_EMPTY_ELEMENTDATA, C_DEFAULTCAPACITY_EMPTY_ELEMENTDATA, B_cache⟩ := (id hE : EV Z a_EMPTY_ELEMENTDATA a_DEFAULTCAPACITY_EMPTY_ELEMENTDATA a_cache a_TRUE a_MILLISECONDS a_MILLISECONDS_name a_FALSE cl_cache)
  obtain ⟨k_DEF, A_DEF⟩ := C_DEFAULTCAPACITY_EMPTY_ELEMENTDATA.arv
  obtain ⟨T10, X10, e10, st10⟩ := getF X00 hx hZ hown (host := "") (Or.inl (own_w hw 119 rfl)) Via.refl e00 F0 (g := (mkF m 1 #[.val (.ref q0)] [(.ref q0)])) rfl rfl (hb hby d_prog_5_method_8_code_1)
  obtain ⟨T11, X11, e11, st11⟩ := getS2 X10 hx hZ hown (host := "") (Or.inl (own_w hw 151 rfl)) Via.refl e10 (S_MILLISECONDS.ext O0.2) (g := (mkF m 15 #[.val (.ref q0)] [])) rfl (hb hby d_prog_5_method_8_code_15)
  obtain ⟨T12, X12, e12, st12⟩ := getF X11 hx hZ hown (host := "") (Or.inl (own_w hw 119 rfl)) Via.refl e11 F0 (g := (mkF m 19 #[.val (.ref q0)] [(.ref q0), (.ref a_MILLISECONDS)])) rfl rfl (hb hby d_prog_5_method_8_code_19)
  obtain ⟨cq13, kq13, q13a, q13b, q13c⟩ := isOf hZ e12 (E_MILLISECONDS.ext O0.2)
  obtain ⟨_, _, ⟨T13, L13, k13, n13⟩, -, X13, ⟨Lc13, hQ13, l13, y13, z13⟩, st13⟩ := X12.virtualBack hx (y := own_m22) (z := own_m22) hown (mvT hZ (own_w hw 153 rfl)) (mvT hZ (own_w hw 154 rfl)) (notFace_of_selects (args := #[]) (mvT hZ (own_w hw 156 rfl))) (mvT hZ (own_w hw 156 rfl)) (mvT hZ (own_w hw 155 rfl)) (by decide) (backOf (W := 0) (rm_tn_f l Z a0 hw [] p1 _ _ _ _ _ _ _ _ h0 n0 O0 hE hgt (own_low hnq hlt)) hZ (own_w hw 157 rfl) (own_w hw 152 rfl) (by decide) (by decide)) q13a q13c (g := (mkF m 24 #[.val (.ref q0)] [(.long (p1 + (1 : Int64))), (.ref a_MILLISECONDS)])) rfl (by rw [hml]; rfl) (Steps.refl _) (argsL := [(.long (p1 + (1 : Int64)))]) (rest := []) (lenOf pd__J_J rfl) rfl (by show 2 * 0 + _ ≤ _; exact Nat.le_of_eq rfl) (hb hby d_prog_5_method_8_code_24) (fun _ _ => ⟨rfl, e12, (by decide : 0 + 0 ≤ _), (by decide : 0 + 0 ≤ _)⟩)
  dsimp only [Pt.U, Pt.locs, Pt.cells, Pt.slots] at X13 l13 y13 z13 st13 hQ13
  subst l13 y13 z13
  obtain ⟨rfl, N13q, hp13⟩ := hQ13
  have N13 := Fr.app N00 N13q
  have k14 : ∀ t, own_At p e below m T13 27 #[.val (.ref q0)] [(.long ((p1 + (1 : Int64)) * (1000000 : Int64)))] t → own_En p e below m s₁ #[(.ref q0)] 1 t := by
    intro t k
    refine k00 t ?_
    refine XS.aloadN X00.here hx rfl (hb hby d_prog_5_method_8_code_0) rfl rfl ?_
    show own_At p e below m s₁ 1 #[.val (.ref q0)] [(.ref q0)] t
    refine st10 _ ?_
    show own_At p e below m T10 4 #[.val (.ref q0)] [(.long p1)] t
    refine XS.lconst X10.here hx rfl (hb hby d_prog_5_method_8_code_4) ?_
    show own_At p e below m T10 5 #[.val (.ref q0)] [(.long (0 : Int64)), (.long p1)] t
    refine XS.lcmp X10.here hx rfl (hb hby d_prog_5_method_8_code_5) rfl ?_
    show own_At p e below m T10 6 #[.val (.ref q0)] [(.int (lcmpW p1 (0 : Int64)))] t
    refine XS.ifYes X10.here hx rfl (pc0 := 6) (pc' := 15) rfl (hb hby d_prog_5_method_8_code_6) rfl ((if0 _ _).trans (flt hlt).2.1) (by decide) (by decide) ?_
    show own_At p e below m T10 15 #[.val (.ref q0)] [] t
    refine st11 _ ?_
    show own_At p e below m T11 18 #[.val (.ref q0)] [(.ref a_MILLISECONDS)] t
    refine XS.aloadN X11.here hx rfl (hb hby d_prog_5_method_8_code_18) rfl rfl ?_
    show own_At p e below m T11 19 #[.val (.ref q0)] [(.ref q0), (.ref a_MILLISECONDS)] t
    refine st12 _ ?_
    show own_At p e below m T12 22 #[.val (.ref q0)] [(.long p1), (.ref a_MILLISECONDS)] t
    refine XS.lconst X12.here hx rfl (hb hby d_prog_5_method_8_code_22) ?_
    show own_At p e below m T12 23 #[.val (.ref q0)] [(.long (1 : Int64)), (.long p1), (.ref a_MILLISECONDS)] t
    refine XS.ladd X12.here hx rfl (hb hby d_prog_5_method_8_code_23) rfl ?_
    show own_At p e below m T12 24 #[.val (.ref q0)] [(.long (p1 + (1 : Int64))), (.ref a_MILLISECONDS)] t
    refine st13.trans ?_
    show own_At p e below m T13 27 #[.val (.ref q0)] [(.long ((p1 + (1 : Int64)) * (1000000 : Int64)))] t
    exact k
  obtain ⟨fs, hr, hrun, hended, hW, hsame⟩ := X13.leave (v := some (.long ((p1 + (1 : Int64)) * (1000000 : Int64)))) (fun h => by rw [Bd.returns] at h; cases h)
  refine hNG ⟨_, _, k14 _ ?_, hrun, hended, _, _, rfl, ?_, ⟨_, rfl⟩, hW, hsame.mono (by decide) (by decide)⟩
  · exact retOut X13 hx (t := .long) Bd.returns rfl (Or.inr (Or.inl ⟨rfl, rfl, _, rfl⟩)) (hb hby d_prog_5_method_8_code_27) hr
  · show Q_rn_f Z q0 p1 a_EMPTY_ELEMENTDATA a_DEFAULTCAPACITY_EMPTY_ELEMENTDATA a_cache a_TRUE a_MILLISECONDS a_MILLISECONDS_name a_FALSE cl_cache h0 n0 _ T13.heap _
    rw [hp13]
    exact ⟨rfl, N13, rfl⟩
theorem ef_xp_neg (m : MethodId) (x0 : Int64)  : entryFrame m #[(.long x0)] 4 = mkF m 0 #[.val (.long x0), .second, .unset, .unset] [] := by first | (simp [entryFrame, mkF, argsToLocals, Value.category]; done) | rfl
theorem d_method_2_code_0 : decode method_2_code 0 = .ok (.lload_n 0, 1) := by decide +kernel
theorem d_method_2_code_1 : decode method_2_code 1 = .ok (.lconst 0, 1) := by decide +kernel
theorem d_method_2_code_2 : decode method_2_code 2 = .ok (.lcmp, 1) := by decide +kernel
theorem d_method_2_code_3 : decode method_2_code 3 = .ok (.ifCond .ge 7, 3) := by decide +kernel
theorem d_method_2_code_6 : decode method_2_code 6 = .ok (.ldc2_w 9, 3) := by decide +kernel
theorem d_method_2_code_9 : decode method_2_code 9 = .ok (.lreturn, 1) := by decide +kernel
theorem pn_com_example_plus1_plus1_TakeOf189PinLaw : plainName "com/example/plus1/plus1/TakeOf189PinLaw" = true := by first | (simp [plainName, overriddenIn]; done) | decide +kernel
abbrev own_m24 : MethodName := ⟨"com/example/plus1/plus1/TakeOf189PinLaw", "expectedNanos", "(J)J"⟩
def Q_xp_neg (Z : State) (p1 : Int64) (a_EMPTY_ELEMENTDATA : Addr) (a_DEFAULTCAPACITY_EMPTY_ELEMENTDATA : Addr) (a_cache : Addr) (a_TRUE : Addr) (a_MILLISECONDS : Addr) (a_MILLISECONDS_name : Addr) (a_FALSE : Addr) (cl_cache : Cell) (h0 : Heap) (n0 : Nat) (v : Option Value) (h : Heap) (L : List Loc) : Prop := v = some (.long (9223372036854775807 : Int64)) ∧ Fr n0 L ∧ h = h0
set_option maxRecDepth 65536 in
set_option maxHeartbeats 40000000 in
theorem rm_xp_neg (l : Launch) (Z : State) (a0 : Array Value) (hw : ∀ d ∈ tables_1, d.before a0 Z = true) (ws : List Jvm.Cond) (p1 : Int64) (a_EMPTY_ELEMENTDATA : Addr) (a_DEFAULTCAPACITY_EMPTY_ELEMENTDATA : Addr) (a_cache : Addr) (a_TRUE : Addr) (a_MILLISECONDS : Addr) (a_MILLISECONDS_name : Addr) (a_FALSE : Addr) (cl_cache : Cell) (h0 : Heap) (n0 : Nat) (O0 : Old Z n0 h0) (hE : EV Z a_EMPTY_ELEMENTDATA a_DEFAULTCAPACITY_EMPTY_ELEMENTDATA a_cache a_TRUE a_MILLISECONDS a_MILLISECONDS_name a_FALSE cl_cache) (hlt : (lcmpW p1 (0 : Int64)) < (0 : Int32)) :
    MetFree l own_m24 (head1 (Jvm.Cond.code own_m24 method_2_code 4 (some .long) :: ws) ({ frames := 0, cells := 0, slots := 0, locals := 0 } : Room)) (fun a U => a = #[(.long p1)] ∧ Z.Warmed39 U.vm ∧ U.heap = h0) (fun _ _ _ _ _ => True) (fun _ U o U' => ∃ v L, o = .returned v ∧ Q_xp_neg Z p1 a_EMPTY_ELEMENTDATA a_DEFAULTCAPACITY_EMPTY_ELEMENTDATA a_cache a_TRUE a_MILLISECONDS a_MILLISECONDS_name a_FALSE cl_cache h0 n0 v U'.heap L ∧ FrameEnd U o U' L ({ frames := 0, cells := 0, slots := 0, locals := 0 } : Room).cells ({ frames := 0, cells := 0, slots := 0, locals := 0 } : Room).slots) := by
  refine MetFree.of_bodySF (plainFor_of_name pn_com_example_plus1_plus1_TakeOf189PinLaw) hisR ?_
  intro p e s m args below meth c s₁ Bd hml0 hP hK
  obtain ⟨rfl, hZ, hh⟩ := hP
  have hx := Bd.exec
  have hby := Bd.bytes
  have hml : c.maxLocals = 4 := hml0
  have hown : s.vm.findClass "com/example/plus1/plus1/TakeOf189PinLaw" = some m.cls := findClass_of_methodNamed Bd.named
  have hnm := (name_of_methodNamed Bd.named Bd.method).1
  have X00 : Stand p l e ({ frames := 0, cells := 0, slots := 0, locals := 0 } : Room) s m #[(.long p1)] below meth c s₁ [] 0 0 := Stand.of_body Bd
  have e00 : s₁.heap = h0 := by rw [← hh, Bd.state]; rfl
  have N00 := Fr.nil n0
  refine Classical.byContradiction fun hNG => ?_
  have K00 := Keep.refl h0 []
  have k00 : ∀ t, own_At p e below m s₁ 0 #[.val (.long p1), .second, .unset, .unset] [] t → own_En p e below m s₁ #[(.long p1)] 4 t := fun t k => castTop (ef_xp_neg m p1 ) k
  obtain ⟨S_EMPTY_ELEMENTDATA, E_EMPTY_ELEMENTDATA, S_DEFAULTCAPACITY_EMPTY_ELEMENTDATA, E_DEFAULTCAPACITY_EMPTY_ELEMENTDATA, S_cache, E_cache, S_TRUE, E_TRUE, F_TRUE_value, S_MILLISECONDS, E_MILLISECONDS, F_MILLISECONDS_name, E_MILLISECONDS_name, F_MILLISECONDS_ordinal, F_MILLISECONDS_scale, F_MILLISECONDS_maxNanos, F_MILLISECONDS_microRatio, F_MILLISECONDS_maxMicros, F_MILLISECONDS_milliRatio, F_MILLISECONDS_maxMillis, F_MILLISECONDS_secRatio, F_MILLISECONDS_maxSecs, S_FALSE, E_FALSE, F_FALSE_value, C_EMPTY_ELEMENTDATA, C_DEFAULTCAPACITY_EMPTY_ELEMENTDATA, B_cache⟩ := (id hE : EV Z a_EMPTY_ELEMENTDATA a_DEFAULTCAPACITY_EMPTY_ELEMENTDATA a_cache a_TRUE a_MILLISECONDS a_MILLISECONDS_name a_FALSE cl_cache)
  obtain ⟨k_DEF, A_DEF⟩ := C_DEFAULTCAPACITY_EMPTY_ELEMENTDATA.arv
  have k10 : ∀ t, own_At p e below m s₁ 9 #[.val (.long p1), .second, .unset, .unset] [(.long (9223372036854775807 : Int64))] t → own_En p e below m s₁ #[(.long p1)] 4 t := by
    intro t k
    refine k00 t ?_
    refine XS.lloadN X00.here hx rfl (hb hby d_method_2_code_0) rfl ?_
    show own_At p e below m s₁ 1 #[.val (.long p1), .second, .unset, .unset] [(.long p1)] t
    refine XS.lconst X00.here hx rfl (hb hby d_method_2_code_1) ?_
    show own_At p e below m s₁ 2 #[.val (.long p1), .second, .unset, .unset] [(.long (0 : Int64)), (.long p1)] t
    refine XS.lcmp X00.here hx rfl (hb hby d_method_2_code_2) rfl ?_
    show own_At p e below m s₁ 3 #[.val (.long p1), .second, .unset, .unset] [(.int (lcmpW p1 (0 : Int64)))] t
    refine XS.ifNo X00.here hx rfl (hb hby d_method_2_code_3) rfl ((if0 _ _).trans (tlt hlt).2.1) ?_
    show own_At p e below m s₁ 6 #[.val (.long p1), .second, .unset, .unset] [] t
    refine X00.ldc2J hx hown (mvT hZ (own_w hw 145 rfl)) rfl (hb hby d_method_2_code_6) ?_
    show own_At p e below m s₁ 9 #[.val (.long p1), .second, .unset, .unset] [(.long (9223372036854775807 : Int64))] t
    exact k
  obtain ⟨fs, hr, hrun, hended, hW, hsame⟩ := X00.leave (v := some (.long (9223372036854775807 : Int64))) (fun h => by rw [Bd.returns] at h; cases h)
  refine hNG ⟨_, _, k10 _ ?_, hrun, hended, _, _, rfl, ?_, ⟨_, rfl⟩, hW, hsame.mono (by decide) (by decide)⟩
  · exact retOut X00 hx (t := .long) Bd.returns rfl (Or.inr (Or.inl ⟨rfl, rfl, _, rfl⟩)) (hb hby d_method_2_code_9) hr
  · show Q_xp_neg Z p1 a_EMPTY_ELEMENTDATA a_DEFAULTCAPACITY_EMPTY_ELEMENTDATA a_cache a_TRUE a_MILLISECONDS a_MILLISECONDS_name a_FALSE cl_cache h0 n0 _ s₁.heap _
    rw [e00]
    exact ⟨rfl, N00, rfl⟩
theorem ef_xp_t (m : MethodId) (x0 : Int64)  : entryFrame m #[(.long x0)] 4 = mkF m 0 #[.val (.long x0), .second, .unset, .unset] [] := by first | (simp [entryFrame, mkF, argsToLocals, Value.category]; done) | rfl
theorem d_method_2_code_10 : decode method_2_code 10 = .ok (.lload_n 0, 1) := by decide +kernel
theorem d_method_2_code_11 : decode method_2_code 11 = .ok (.lconst 1, 1) := by decide +kernel
theorem d_method_2_code_12 : decode method_2_code 12 = .ok (.ladd, 1) := by decide +kernel
theorem d_method_2_code_13 : decode method_2_code 13 = .ok (.lstore_n 2, 1) := by decide +kernel
theorem d_method_2_code_14 : decode method_2_code 14 = .ok (.lload_n 2, 1) := by decide +kernel
theorem d_method_2_code_15 : decode method_2_code 15 = .ok (.ldc2_w 11, 3) := by decide +kernel
theorem d_method_2_code_18 : decode method_2_code 18 = .ok (.lcmp, 1) := by decide +kernel
theorem d_method_2_code_19 : decode method_2_code 19 = .ok (.ifCond .le 7, 3) := by decide +kernel
theorem d_method_2_code_22 : decode method_2_code 22 = .ok (.ldc2_w 9, 3) := by decide +kernel
theorem d_method_2_code_25 : decode method_2_code 25 = .ok (.lreturn, 1) := by decide +kernel
def Q_xp_t (Z : State) (p1 : Int64) (a_EMPTY_ELEMENTDATA : Addr) (a_DEFAULTCAPACITY_EMPTY_ELEMENTDATA : Addr) (a_cache : Addr) (a_TRUE : Addr) (a_MILLISECONDS : Addr) (a_MILLISECONDS_name : Addr) (a_FALSE : Addr) (cl_cache : Cell) (h0 : Heap) (n0 : Nat) (v : Option Value) (h : Heap) (L : List Loc) : Prop := v = some (.long (9223372036854775807 : Int64)) ∧ Fr n0 L ∧ h = h0
set_option maxRecDepth 65536 in
set_option maxHeartbeats 40000000 in
theorem rm_xp_t (l : Launch) (Z : State) (a0 : Array Value) (hw : ∀ d ∈ tables_1, d.before a0 Z = true) (ws : List Jvm.Cond) (p1 : Int64) (a_EMPTY_ELEMENTDATA : Addr) (a_DEFAULTCAPACITY_EMPTY_ELEMENTDATA : Addr) (a_cache : Addr) (a_TRUE : Addr) (a_MILLISECONDS : Addr) (a_MILLISECONDS_name : Addr) (a_FALSE : Addr) (cl_cache : Cell) (h0 : Heap) (n0 : Nat) (O0 : Old Z n0 h0) (hE : EV Z a_EMPTY_ELEMENTDATA a_DEFAULTCAPACITY_EMPTY_ELEMENTDATA a_cache a_TRUE a_MILLISECONDS a_MILLISECONDS_name a_FALSE cl_cache) (hlt : ¬ ((lcmpW p1 (0 : Int64)) < (0 : Int32))) (hgt : (0 : Int32) < (lcmpW (p1 + (1 : Int64)) (9223372036854 : Int64))) :
    MetFree l own_m24 (head1 (Jvm.Cond.code own_m24 method_2_code 4 (some .long) :: ws) ({ frames := 0, cells := 0, slots := 0, locals := 0 } : Room)) (fun a U => a = #[(.long p1)] ∧ Z.Warmed39 U.vm ∧ U.heap = h0) (fun _ _ _ _ _ => True) (fun _ U o U' => ∃ v L, o = .returned v ∧ Q_xp_t Z p1 a_EMPTY_ELEMENTDATA a_DEFAULTCAPACITY_EMPTY_ELEMENTDATA a_cache a_TRUE a_MILLISECONDS a_MILLISECONDS_name a_FALSE cl_cache h0 n0 v U'.heap L ∧ FrameEnd U o U' L ({ frames := 0, cells := 0, slots := 0, locals := 0 } : Room).cells ({ frames := 0, cells := 0, slots := 0, locals := 0 } : Room).slots) := by
  refine MetFree.of_bodySF (plainFor_of_name pn_com_example_plus1_plus1_TakeOf189PinLaw) hisR ?_
  intro p e s m args below meth c s₁ Bd hml0 hP hK
  obtain ⟨rfl, hZ, hh⟩ := hP
  have hx := Bd.exec
  have hby := Bd.bytes
  have hml : c.maxLocals = 4 := hml0
  have hown : s.vm.findClass "com/example/plus1/plus1/TakeOf189PinLaw" = some m.cls := findClass_of_methodNamed Bd.named
  have hnm := (name_of_methodNamed Bd.named Bd.method).1
  have X00 : Stand p l e ({ frames := 0, cells := 0, slots := 0, locals := 0 } : Room) s m #[(.long p1)] below meth c s₁ [] 0 0 := Stand.of_body Bd
  have e00 : s₁.heap = h0 := by rw [← hh, Bd.state]; rfl
  have N00 := Fr.nil n0
  refine Classical.byContradiction fun hNG => ?_
  have K00 := Keep.refl h0 []
  have k00 : ∀ t, own_At p e below m s₁ 0 #[.val (.long p1), .second, .unset, .unset] [] t → own_En p e below m s₁ #[(.long p1)] 4 t := fun t k => castTop (ef_xp_t m p1 ) k
  obtain ⟨S_EMPTY_ELEMENTDATA, E_EMPTY_ELEMENTDATA, S_DEFAULTCAPACITY_EMPTY_ELEMENTDATA, E_DEFAULTCAPACITY_EMPTY_ELEMENTDATA, S_cache, E_cache, S_TRUE, E_TRUE, F_TRUE_value, S_MILLISECONDS, E_MILLISECONDS, F_MILLISECONDS_name, E_MILLISECONDS_name, F_MILLISECONDS_ordinal, F_MILLISECONDS_scale, F_MILLISECONDS_maxNanos, F_MILLISECONDS_microRatio, F_MILLISECONDS_maxMicros, F_MILLISECONDS_milliRatio, F_MILLISECONDS_maxMillis, F_MILLISECONDS_secRatio, F_MILLISECONDS_maxSecs, S_FALSE, E_FALSE, F_FALSE_value, C_EMPTY_ELEMENTDATA, C_DEFAULTCAPACITY_EMPTY_ELEMENTDATA, B_cache⟩ := (id hE : EV Z a_EMPTY_ELEMENTDATA a_DEFAULTCAPACITY_EMPTY_ELEMENTDATA a_cache a_TRUE a_MILLISECONDS a_MILLISECONDS_name a_FALSE cl_cache)
  obtain ⟨k_DEF, A_DEF⟩ := C_DEFAULTCAPACITY_EMPTY_ELEMENTDATA.arv
  have k10 : ∀ t, own_At p e below m s₁ 25 #[.val (.long p1), .second, .val (.long (p1 + (1 : Int64))), .second] [(.long (9223372036854775807 : Int64))] t → own_En p e below m s₁ #[(.long p1)] 4 t := by
    intro t k
    refine k00 t ?_
    refine XS.lloadN X00.here hx rfl (hb hby d_method_2_code_0) rfl ?_
    show own_At p e below m s₁ 1 #[.val (.long p1), .second, .unset, .unset] [(.long p1)] t
    refine XS.lconst X00.here hx rfl (hb hby d_method_2_code_1) ?_
    show own_At p e below m s₁ 2 #[.val (.long p1), .second, .unset, .unset] [(.long (0 : Int64)), (.long p1)] t
    refine XS.lcmp X00.here hx rfl (hb hby d_method_2_code_2) rfl ?_
    show own_At p e below m s₁ 3 #[.val (.long p1), .second, .unset, .unset] [(.int (lcmpW p1 (0 : Int64)))] t
    refine XS.ifYes X00.here hx rfl (pc0 := 3) (pc' := 10) rfl (hb hby d_method_2_code_3) rfl ((if0 _ _).trans (flt hlt).2.1) (by decide) (by decide) ?_
    show own_At p e below m s₁ 10 #[.val (.long p1), .second, .unset, .unset] [] t
    refine XS.lloadN X00.here hx rfl (hb hby d_method_2_code_10) rfl ?_
    show own_At p e below m s₁ 11 #[.val (.long p1), .second, .unset, .unset] [(.long p1)] t
    refine XS.lconst X00.here hx rfl (hb hby d_method_2_code_11) ?_
    show own_At p e below m s₁ 12 #[.val (.long p1), .second, .unset, .unset] [(.long (1 : Int64)), (.long p1)] t
    refine XS.ladd X00.here hx rfl (hb hby d_method_2_code_12) rfl ?_
    show own_At p e below m s₁ 13 #[.val (.long p1), .second, .unset, .unset] [(.long (p1 + (1 : Int64)))] t
    refine XS.lstoreN X00.here hx rfl (hb hby d_method_2_code_13) rfl (l' := #[.val (.long p1), .second, .val (.long (p1 + (1 : Int64))), .second]) rfl ?_
    show own_At p e below m s₁ 14 #[.val (.long p1), .second, .val (.long (p1 + (1 : Int64))), .second] [] t
    refine XS.lloadN X00.here hx rfl (hb hby d_method_2_code_14) rfl ?_
    show own_At p e below m s₁ 15 #[.val (.long p1), .second, .val (.long (p1 + (1 : Int64))), .second] [(.long (p1 + (1 : Int64)))] t
    refine X00.ldc2J hx hown (mvT hZ (own_w hw 166 rfl)) rfl (hb hby d_method_2_code_15) ?_
    show own_At p e below m s₁ 18 #[.val (.long p1), .second, .val (.long (p1 + (1 : Int64))), .second] [(.long (9223372036854 : Int64)), (.long (p1 + (1 : Int64)))] t
    refine XS.lcmp X00.here hx rfl (hb hby d_method_2_code_18) rfl ?_
    show own_At p e below m s₁ 19 #[.val (.long p1), .second, .val (.long (p1 + (1 : Int64))), .second] [(.int (lcmpW (p1 + (1 : Int64)) (9223372036854 : Int64)))] t
    refine XS.ifNo X00.here hx rfl (hb hby d_method_2_code_19) rfl ((if0 _ _).trans (tlt hgt).2.2.2) ?_
    show own_At p e below m s₁ 22 #[.val (.long p1), .second, .val (.long (p1 + (1 : Int64))), .second] [] t
    refine X00.ldc2J hx hown (mvT hZ (own_w hw 145 rfl)) rfl (hb hby d_method_2_code_22) ?_
    show own_At p e below m s₁ 25 #[.val (.long p1), .second, .val (.long (p1 + (1 : Int64))), .second] [(.long (9223372036854775807 : Int64))] t
    exact k
  obtain ⟨fs, hr, hrun, hended, hW, hsame⟩ := X00.leave (v := some (.long (9223372036854775807 : Int64))) (fun h => by rw [Bd.returns] at h; cases h)
  refine hNG ⟨_, _, k10 _ ?_, hrun, hended, _, _, rfl, ?_, ⟨_, rfl⟩, hW, hsame.mono (by decide) (by decide)⟩
  · exact retOut X00 hx (t := .long) Bd.returns rfl (Or.inr (Or.inl ⟨rfl, rfl, _, rfl⟩)) (hb hby d_method_2_code_25) hr
  · show Q_xp_t Z p1 a_EMPTY_ELEMENTDATA a_DEFAULTCAPACITY_EMPTY_ELEMENTDATA a_cache a_TRUE a_MILLISECONDS a_MILLISECONDS_name a_FALSE cl_cache h0 n0 _ s₁.heap _
    rw [e00]
    exact ⟨rfl, N00, rfl⟩
theorem ef_xp_f (m : MethodId) (x0 : Int64)  : entryFrame m #[(.long x0)] 4 = mkF m 0 #[.val (.long x0), .second, .unset, .unset] [] := by first | (simp [entryFrame, mkF, argsToLocals, Value.category]; done) | rfl
theorem d_method_2_code_26 : decode method_2_code 26 = .ok (.lload_n 2, 1) := by decide +kernel
theorem d_method_2_code_27 : decode method_2_code 27 = .ok (.ldc2_w 13, 3) := by decide +kernel
theorem d_method_2_code_30 : decode method_2_code 30 = .ok (.lmul, 1) := by decide +kernel
theorem d_method_2_code_31 : decode method_2_code 31 = .ok (.lreturn, 1) := by decide +kernel
def Q_xp_f (Z : State) (p1 : Int64) (a_EMPTY_ELEMENTDATA : Addr) (a_DEFAULTCAPACITY_EMPTY_ELEMENTDATA : Addr) (a_cache : Addr) (a_TRUE : Addr) (a_MILLISECONDS : Addr) (a_MILLISECONDS_name : Addr) (a_FALSE : Addr) (cl_cache : Cell) (h0 : Heap) (n0 : Nat) (v : Option Value) (h : Heap) (L : List Loc) : Prop := v = some (.long ((p1 + (1 : Int64)) * (1000000 : Int64))) ∧ Fr n0 L ∧ h = h0
set_option maxRecDepth 65536 in
set_option maxHeartbeats 40000000 in
theorem rm_xp_f (l : Launch) (Z : State) (a0 : Array Value) (hw : ∀ d ∈ tables_1, d.before a0 Z = true) (ws : List Jvm.Cond) (p1 : Int64) (a_EMPTY_ELEMENTDATA : Addr) (a_DEFAULTCAPACITY_EMPTY_ELEMENTDATA : Addr) (a_cache : Addr) (a_TRUE : Addr) (a_MILLISECONDS : Addr) (a_MILLISECONDS_name : Addr) (a_FALSE : Addr) (cl_cache : Cell) (h0 : Heap) (n0 : Nat) (O0 : Old Z n0 h0) (hE : EV Z a_EMPTY_ELEMENTDATA a_DEFAULTCAPACITY_EMPTY_ELEMENTDATA a_cache a_TRUE a_MILLISECONDS a_MILLISECONDS_name a_FALSE cl_cache) (hlt : ¬ ((lcmpW p1 (0 : Int64)) < (0 : Int32))) (hgt : ¬ ((0 : Int32) < (lcmpW (p1 + (1 : Int64)) (9223372036854 : Int64)))) :
    MetFree l own_m24 (head1 (Jvm.Cond.code own_m24 method_2_code 4 (some .long) :: ws) ({ frames := 0, cells := 0, slots := 0, locals := 0 } : Room)) (fun a U => a = #[(.long p1)] ∧ Z.Warmed39 U.vm ∧ U.heap = h0) (fun _ _ _ _ _ => True) (fun _ U o U' => ∃ v L, o = .returned v ∧ Q_xp_f Z p1 a_EMPTY_ELEMENTDATA a_DEFAULTCAPACITY_EMPTY_ELEMENTDATA a_cache a_TRUE a_MILLISECONDS a_MILLISECONDS_name a_FALSE cl_cache h0 n0 v U'.heap L ∧ FrameEnd U o U' L ({ frames := 0, cells := 0, slots := 0, locals := 0 } : Room).cells ({ frames := 0, cells := 0, slots := 0, locals := 0 } : Room).slots) := by
  refine MetFree.of_bodySF (plainFor_of_name pn_com_example_plus1_plus1_TakeOf189PinLaw) hisR ?_
  intro p e s m args below meth c s₁ Bd hml0 hP hK
  obtain ⟨rfl, hZ, hh⟩ := hP
  have hx := Bd.exec
  have hby := Bd.bytes
  have hml : c.maxLocals = 4 := hml0
  have hown : s.vm.findClass "com/example/plus1/plus1/TakeOf189PinLaw" = some m.cls := findClass_of_methodNamed Bd.named
  have hnm := (name_of_methodNamed Bd.named Bd.method).1
  have X00 : Stand p l e ({ frames := 0, cells := 0, slots := 0, locals := 0 } : Room) s m #[(.long p1)] below meth c s₁ [] 0 0 := Stand.of_body Bd
  have e00 : s₁.heap = h0 := by rw [← hh, Bd.state]; rfl
  have N00 := Fr.nil n0
  refine Classical.byContradiction fun hNG => ?_
  have K00 := Keep.refl h0 []
  have k00 : ∀ t, own_At p e below m s₁ 0 #[.val (.long p1), .second, .unset, .unset] [] t → own_En p e below m s₁ #[(.long p1)] 4 t := fun t k => castTop (ef_xp_f m p1 ) k
  obtain ⟨S_EMPTY_ELEMENTDATA, E_EMPTY_ELEMENTDATA, S_DEFAULTCAPACITY_EMPTY_ELEMENTDATA, E_DEFAULTCAPACITY_EMPTY_ELEMENTDATA, S_cache, E_cache, S_TRUE, E_TRUE, F_TRUE_value, S_MILLISECONDS, E_MILLISECONDS, F_MILLISECONDS_name, E_MILLISECONDS_name, F_MILLISECONDS_ordinal, F_MILLISECONDS_scale, F_MILLISECONDS_maxNanos, F_MILLISECONDS_microRatio, F_MILLISECONDS_maxMicros, F_MILLISECONDS_milliRatio, F_MILLISECONDS_maxMillis, F_MILLISECONDS_secRatio, F_MILLISECONDS_maxSecs, S_FALSE, E_FALSE, F_FALSE_value, C_EMPTY_ELEMENTDATA, C_DEFAULTCAPACITY_EMPTY_ELEMENTDATA, B_cache⟩ := (id hE : EV Z a_EMPTY_ELEMENTDATA a_DEFAULTCAPACITY_EMPTY_ELEMENTDATA a_cache a_TRUE a_MILLISECONDS a_MILLISECONDS_name a_FALSE cl_cache)
  obtain ⟨k_DEF, A_DEF⟩ := C_DEFAULTCAPACITY_EMPTY_ELEMENTDATA.arv
  have k10 : ∀ t, own_At p e below m s₁ 31 #[.val (.long p1), .second, .val (.long (p1 + (1 : Int64))), .second] [(.long ((p1 + (1 : Int64)) * (1000000 : Int64)))] t → own_En p e below m s₁ #[(.long p1)] 4 t := by
    intro t k
    refine k00 t ?_
    refine XS.lloadN X00.here hx rfl (hb hby d_method_2_code_0) rfl ?_
    show own_At p e below m s₁ 1 #[.val (.long p1), .second, .unset, .unset] [(.long p1)] t
    refine XS.lconst X00.here hx rfl (hb hby d_method_2_code_1) ?_
    show own_At p e below m s₁ 2 #[.val (.long p1), .second, .unset, .unset] [(.long (0 : Int64)), (.long p1)] t
    refine XS.lcmp X00.here hx rfl (hb hby d_method_2_code_2) rfl ?_
    show own_At p e below m s₁ 3 #[.val (.long p1), .second, .unset, .unset] [(.int (lcmpW p1 (0 : Int64)))] t
    refine XS.ifYes X00.here hx rfl (pc0 := 3) (pc' := 10) rfl (hb hby d_method_2_code_3) rfl ((if0 _ _).trans (flt hlt).2.1) (by decide) (by decide) ?_
    show own_At p e below m s₁ 10 #[.val (.long p1), .second, .unset, .unset] [] t
    refine XS.lloadN X00.here hx rfl (hb hby d_method_2_code_10) rfl ?_
    show own_At p e below m s₁ 11 #[.val (.long p1), .second, .unset, .unset] [(.long p1)] t
    refine XS.lconst X00.here hx rfl (hb hby d_method_2_code_11) ?_
    show own_At p e below m s₁ 12 #[.val (.long p1), .second, .unset, .unset] [(.long (1 : Int64)), (.long p1)] t
    refine XS.ladd X00.here hx rfl (hb hby d_method_2_code_12) rfl ?_
    show own_At p e below m s₁ 13 #[.val (.long p1), .second, .unset, .unset] [(.long (p1 + (1 : Int64)))] t
    refine XS.lstoreN X00.here hx rfl (hb hby d_method_2_code_13) rfl (l' := #[.val (.long p1), .second, .val (.long (p1 + (1 : Int64))), .second]) rfl ?_
    show own_At p e below m s₁ 14 #[.val (.long p1), .second, .val (.long (p1 + (1 : Int64))), .second] [] t
    refine XS.lloadN X00.here hx rfl (hb hby d_method_2_code_14) rfl ?_
    show own_At p e below m s₁ 15 #[.val (.long p1), .second, .val (.long (p1 + (1 : Int64))), .second] [(.long (p1 + (1 : Int64)))] t
    refine X00.ldc2J hx hown (mvT hZ (own_w hw 166 rfl)) rfl (hb hby d_method_2_code_15) ?_
    show own_At p e below m s₁ 18 #[.val (.long p1), .second, .val (.long (p1 + (1 : Int64))), .second] [(.long (9223372036854 : Int64)), (.long (p1 + (1 : Int64)))] t
    refine XS.lcmp X00.here hx rfl (hb hby d_method_2_code_18) rfl ?_
    show own_At p e below m s₁ 19 #[.val (.long p1), .second, .val (.long (p1 + (1 : Int64))), .second] [(.int (lcmpW (p1 + (1 : Int64)) (9223372036854 : Int64)))] t
    refine XS.ifYes X00.here hx rfl (pc0 := 19) (pc' := 26) rfl (hb hby d_method_2_code_19) rfl ((if0 _ _).trans (flt hgt).2.2.2) (by decide) (by decide) ?_
    show own_At p e below m s₁ 26 #[.val (.long p1), .second, .val (.long (p1 + (1 : Int64))), .second] [] t
    refine XS.lloadN X00.here hx rfl (hb hby d_method_2_code_26) rfl ?_
    show own_At p e below m s₁ 27 #[.val (.long p1), .second, .val (.long (p1 + (1 : Int64))), .second] [(.long (p1 + (1 : Int64)))] t
    refine X00.ldc2J hx hown (mvT hZ (own_w hw 167 rfl)) rfl (hb hby d_method_2_code_27) ?_
    show own_At p e below m s₁ 30 #[.val (.long p1), .second, .val (.long (p1 + (1 : Int64))), .second] [(.long (1000000 : Int64)), (.long (p1 + (1 : Int64)))] t
    refine XS.lmul X00.here hx rfl (hb hby d_method_2_code_30) rfl ?_
    show own_At p e below m s₁ 31 #[.val (.long p1), .second, .val (.long (p1 + (1 : Int64))), .second] [(.long ((p1 + (1 : Int64)) * (1000000 : Int64)))] t
    exact k
  obtain ⟨fs, hr, hrun, hended, hW, hsame⟩ := X00.leave (v := some (.long ((p1 + (1 : Int64)) * (1000000 : Int64)))) (fun h => by rw [Bd.returns] at h; cases h)
  refine hNG ⟨_, _, k10 _ ?_, hrun, hended, _, _, rfl, ?_, ⟨_, rfl⟩, hW, hsame.mono (by decide) (by decide)⟩
  · exact retOut X00 hx (t := .long) Bd.returns rfl (Or.inr (Or.inl ⟨rfl, rfl, _, rfl⟩)) (hb hby d_method_2_code_31) hr
  · show Q_xp_f Z p1 a_EMPTY_ELEMENTDATA a_DEFAULTCAPACITY_EMPTY_ELEMENTDATA a_cache a_TRUE a_MILLISECONDS a_MILLISECONDS_name a_FALSE cl_cache h0 n0 _ s₁.heap _
    rw [e00]
    exact ⟨rfl, N00, rfl⟩
theorem ef_ol2 (m : MethodId) (x0 : Addr)  : entryFrame m #[(.ref x0)] 1 = mkF m 0 #[.val (.ref x0)] [] := by first | (simp [entryFrame, mkF, argsToLocals, Value.category]; done) | rfl
theorem d_prog_5_method_2_code_0 : decode prog_5_method_2_code 0 = .ok (.aload_n 0, 1) := by decide +kernel
theorem d_prog_5_method_2_code_1 : decode prog_5_method_2_code 1 = .ok (.iconst 0, 1) := by decide +kernel
theorem d_prog_5_method_2_code_2 : decode prog_5_method_2_code 2 = .ok (.invokeinterface 20 2, 5) := by decide +kernel
abbrev own_m25 : MethodName := ⟨"java/util/List", "get", "(I)Ljava/lang/Object;"⟩
theorem d_prog_5_method_2_code_7 : decode prog_5_method_2_code 7 = .ok (.checkcast 26, 3) := by decide +kernel
theorem d_prog_5_method_2_code_10 : decode prog_5_method_2_code 10 = .ok (.invokevirtual 28, 3) := by decide +kernel
theorem pd___J : parseMethodDescriptor "()J" = some ⟨[], some .long⟩ := by decide +kernel
theorem d_prog_5_method_2_code_13 : decode prog_5_method_2_code 13 = .ok (.aload_n 0, 1) := by decide +kernel
theorem d_prog_5_method_2_code_14 : decode prog_5_method_2_code 14 = .ok (.iconst 1, 1) := by decide +kernel
theorem d_prog_5_method_2_code_15 : decode prog_5_method_2_code 15 = .ok (.invokeinterface 20 2, 5) := by decide +kernel
theorem d_prog_5_method_2_code_20 : decode prog_5_method_2_code 20 = .ok (.checkcast 26, 3) := by decide +kernel
theorem d_prog_5_method_2_code_23 : decode prog_5_method_2_code 23 = .ok (.invokevirtual 28, 3) := by decide +kernel
theorem d_prog_5_method_2_code_26 : decode prog_5_method_2_code 26 = .ok (.invokestatic 32, 3) := by decide +kernel
theorem pd__JJ_Lcom_example_plus1_plus1_Take_ : parseMethodDescriptor "(JJ)Lcom/example/plus1/plus1/Take;" = some ⟨[.long, .long], some (.object "com/example/plus1/plus1/Take")⟩ := by decide +kernel
theorem d_prog_5_method_2_code_29 : decode prog_5_method_2_code 29 = .ok (.areturn, 1) := by decide +kernel
abbrev own_m26 : MethodName := ⟨"com/example/plus1/plus1/Take", "of", "(Ljava/util/List;)Lcom/example/plus1/plus1/Take;"⟩
def Q_ol2 (Z : State) (q0 : Addr) (t0 : Addr) (k0 : ClassId) (x0 : Addr) (x1 : Addr) (p0 : Int64) (p1 : Int64) (a_EMPTY_ELEMENTDATA : Addr) (a_DEFAULTCAPACITY_EMPTY_ELEMENTDATA : Addr) (a_cache : Addr) (a_TRUE : Addr) (a_MILLISECONDS : Addr) (a_MILLISECONDS_name : Addr) (a_FALSE : Addr) (cl_cache : Cell) (h0 : Heap) (n0 : Nat) (v : Option Value) (h : Heap) (L : List Loc) : Prop := ∃ (b : Addr), v = some (.ref b) ∧ Fr n0 L ∧ Old Z n0 h ∧ Keep h0 h [] ∧ n0 ≤ b ∧ h0.size ≤ b ∧ Exa Z h b "com/example/plus1/plus1/Take" ∧ Fld Z h b "com/example/plus1/plus1/Take" "holds" "J" (.long p0) ∧ Fld Z h b "com/example/plus1/plus1/Take" "retryMillis" "J" (.long p1) ∧ Fld Z h b "com/example/plus1/plus1/Take" "heldBefore" "Ljava/lang/Boolean;" (.ref (own_held p0 a_TRUE a_FALSE))
set_option maxRecDepth 65536 in
set_option maxHeartbeats 40000000 in
theorem rm_ol2 (l : Launch) (Z : State) (a0 : Array Value) (hw : ∀ d ∈ tables_1, d.before a0 Z = true) (ws : List Jvm.Cond) (q0 : Addr) (t0 : Addr) (k0 : ClassId) (x0 : Addr) (x1 : Addr) (p0 : Int64) (p1 : Int64) (a_EMPTY_ELEMENTDATA : Addr) (a_DEFAULTCAPACITY_EMPTY_ELEMENTDATA : Addr) (a_cache : Addr) (a_TRUE : Addr) (a_MILLISECONDS : Addr) (a_MILLISECONDS_name : Addr) (a_FALSE : Addr) (cl_cache : Cell) (h0 : Heap) (n0 : Nat) (O0 : Old Z n0 h0) (hE : EV Z a_EMPTY_ELEMENTDATA a_DEFAULTCAPACITY_EMPTY_ELEMENTDATA a_cache a_TRUE a_MILLISECONDS a_MILLISECONDS_name a_FALSE cl_cache) (P0 : Exa Z h0 q0 "java/util/ArrayList") (P1 : Fld Z h0 q0 "java/util/ArrayList" "elementData" "[Ljava/lang/Object;" (.ref t0)) (P2 : Fld Z h0 q0 "java/util/ArrayList" "size" "I" (.int (2 : Int32))) (P3 : Arv Z h0 t0 k0 (.object "java/lang/Object") (10 : Int32) [(.ref x0), (.ref x1), .null, .null, .null, .null, .null, .null, .null, .null] .null) (P4 : Exa Z h0 x0 "java/lang/Long") (P5 : Fld Z h0 x0 "java/lang/Long" "value" "J" (.long p0)) (P6 : Exa Z h0 x1 "java/lang/Long") (P7 : Fld Z h0 x1 "java/lang/Long" "value" "J" (.long p1)) :
    MetFree l own_m26 (head1 (Jvm.Cond.code own_m26 prog_5_method_2_code 1 (some (.object "com/example/plus1/plus1/Take")) :: ws) ({ frames := 3, cells := 1, slots := 3, locals := 45 } : Room)) (fun a U => a = #[(.ref q0)] ∧ Z.Warmed39 U.vm ∧ U.heap = h0) (fun _ _ _ _ _ => True) (fun _ U o U' => ∃ v L, o = .returned v ∧ Q_ol2 Z q0 t0 k0 x0 x1 p0 p1 a_EMPTY_ELEMENTDATA a_DEFAULTCAPACITY_EMPTY_ELEMENTDATA a_cache a_TRUE a_MILLISECONDS a_MILLISECONDS_name a_FALSE cl_cache h0 n0 v U'.heap L ∧ FrameEnd U o U' L ({ frames := 3, cells := 1, slots := 3, locals := 45 } : Room).cells ({ frames := 3, cells := 1, slots := 3, locals := 45 } : Room).slots) := by
  refine MetFree.of_bodySF (plainFor_of_name pn_com_example_plus1_plus1_Take) hisR ?_
  intro p e s m args below meth c s₁ Bd hml0 hP hK
  obtain ⟨rfl, hZ, hh⟩ := hP
  have hx := Bd.exec
  have hby := Bd.bytes
  have hml : c.maxLocals = 1 := hml0
  have hown : s.vm.findClass "com/example/plus1/plus1/Take" = some m.cls := findClass_of_methodNamed Bd.named
  have hnm := (name_of_methodNamed Bd.named Bd.method).1
  have X00 : Stand p l e ({ frames := 3, cells := 1, slots := 3, locals := 45 } : Room) s m #[(.ref q0)] below meth c s₁ [] 0 0 := Stand.of_body Bd
  have e00 : s₁.heap = h0 := by rw [← hh, Bd.state]; rfl
  have N00 := Fr.nil n0
  refine Classical.byContradiction fun hNG => ?_
  have K00 := Keep.refl h0 []
  have k00 : ∀ t, own_At p e below m s₁ 0 #[.val (.ref q0)] [] t → own_En p e below m s₁ #[(.ref q0)] 1 t := fun t k => castTop (ef_ol2 m q0 ) k
  obtain ⟨S_EMPTY_ELEMENTDATA, E_EMPTY_ELEMENTDATA, S_DEFAULTCAPACITY_EMPTY_ELEMENTDATA, E_DEFAULTCAPACITY_EMPTY_ELEMENTDATA, S_cache, E_cache, S_TRUE, E_TRUE, F_TRUE_value, S_MILLISECONDS, E_MILLISECONDS, F_MILLISECONDS_name, E_MILLISECONDS_name, F_MILLISECONDS_ordinal, F_MILLISECONDS_scale, F_MILLISECONDS_maxNanos, F_MILLISECONDS_microRatio, F_MILLISECONDS_maxMicros, F_MILLISECONDS_milliRatio, F_MILLISECONDS_maxMillis, F_MILLISECONDS_secRatio, F_MILLISECONDS_maxSecs, S_FALSE, E_FALSE, F_FALSE_value, C_EMPTY_ELEMENTDATA, C_DEFAULTCAPACITY_EMPTY_ELEMENTDATA, B_cache⟩ := (id hE : EV Z a_EMPTY_ELEMENTDATA a_DEFAULTCAPACITY_EMPTY_ELEMENTDATA a_cache a_TRUE a_MILLISECONDS a_MILLISECONDS_name a_FALSE cl_cache)
  obtain ⟨k_DEF, A_DEF⟩ := C_DEFAULTCAPACITY_EMPTY_ELEMENTDATA.arv
  obtain ⟨cq10, kq10, q10a, q10b, q10c⟩ := isOf hZ e00 P0
  obtain ⟨_, _, ⟨T10, L10, k10, n10⟩, -, X10, ⟨Lc10, hQ10, l10, y10, z10⟩, st10⟩ := X00.interfaceBack hx (xi := own_m25) (y := own_m14) hown (mvT hZ (own_w hw 73 rfl)) (mvT hZ (own_w hw 74 rfl)) (mvT hZ (own_w hw 75 rfl)) (mvT hZ (own_w hw 76 rfl)) (mvT hZ (own_w hw 77 rfl)) (mvT hZ (own_w hw 78 rfl)) (mvT hZ (own_w hw 79 rfl)) (mvT hZ (own_w hw 41 rfl)) (by decide) (backOf (W := 0) (rm_get2_0 l Z a0 hw [] q0 t0 k0 x0 x1 _ _ _ _ _ _ _ _ h0 n0 O0 hE P1 P3 P2 P0 ) hZ (own_w hw 80 rfl) (own_w hw 2 rfl) (by decide) (by decide)) q10a q10b q10c (g := (mkF m 2 #[.val (.ref q0)] [(.int (0 : Int32)), (.ref q0)])) rfl (by rw [hml]; rfl) (Steps.refl _) (argsL := [(.int (0 : Int32))]) (rest := []) (lenOf pd__I_Ljava_lang_Object_ rfl) rfl (by show 2 * 0 + _ ≤ _; exact Nat.le_of_eq rfl) (hb hby d_prog_5_method_2_code_2) (fun _ _ => ⟨rfl, e00, (by decide : 0 + 0 ≤ _), (by decide : 0 + 0 ≤ _)⟩)
  dsimp only [Pt.U, Pt.locs, Pt.cells, Pt.slots] at X10 l10 y10 z10 st10 hQ10
  subst l10 y10 z10
  obtain ⟨rfl, N10q, hp10⟩ := hQ10
  have N10 := Fr.app N00 N10q
  obtain ⟨T11, X11, e11, st11⟩ := castY X10 hx hZ hown (own_w hw 94 rfl) hp10 (Ins.self P4) (g := (mkF m 7 #[.val (.ref q0)] [(.ref x0)])) rfl rfl (hb hby d_prog_5_method_2_code_7)
  obtain ⟨cq12, kq12, q12a, q12b, q12c⟩ := isOf hZ e11 P4
  obtain ⟨_, _, ⟨T12, L12, k12, n12⟩, -, X12, ⟨Lc12, hQ12, l12, y12, z12⟩, st12⟩ := X11.virtualBack hx (y := own_m15) (z := own_m15) hown (mvT hZ (own_w hw 96 rfl)) (mvT hZ (own_w hw 97 rfl)) (notFace_of_selects (args := #[]) (mvT hZ (own_w hw 99 rfl))) (mvT hZ (own_w hw 99 rfl)) (mvT hZ (own_w hw 98 rfl)) (by decide) (backOf (W := 0) (rm_lgv l Z a0 hw [] x0 p0 _ _ _ _ _ _ _ _ h0 n0 O0 hE P5 ) hZ (own_w hw 100 rfl) (own_w hw 28 rfl) (by decide) (by decide)) q12a q12c (g := (mkF m 10 #[.val (.ref q0)] [(.ref x0)])) rfl (by rw [hml]; rfl) (Steps.refl _) (argsL := []) (rest := []) (lenOf pd___J rfl) rfl (by show 2 * 0 + _ ≤ _; exact Nat.le_of_eq rfl) (hb hby d_prog_5_method_2_code_10) (fun _ _ => ⟨rfl, e11, (by decide : 0 + 0 ≤ _), (by decide : 0 + 0 ≤ _)⟩)
  dsimp only [Pt.U, Pt.locs, Pt.cells, Pt.slots] at X12 l12 y12 z12 st12 hQ12
  subst l12 y12 z12
  obtain ⟨rfl, N12q, hp12⟩ := hQ12
  have N12 := Fr.app N10 N12q
  obtain ⟨cq13, kq13, q13a, q13b, q13c⟩ := isOf hZ hp12 P0
  obtain ⟨_, _, ⟨T13, L13, k13, n13⟩, -, X13, ⟨Lc13, hQ13, l13, y13, z13⟩, st13⟩ := X12.interfaceBack hx (xi := own_m25) (y := own_m14) hown (mvT hZ (own_w hw 73 rfl)) (mvT hZ (own_w hw 74 rfl)) (mvT hZ (own_w hw 75 rfl)) (mvT hZ (own_w hw 76 rfl)) (mvT hZ (own_w hw 77 rfl)) (mvT hZ (own_w hw 78 rfl)) (mvT hZ (own_w hw 79 rfl)) (mvT hZ (own_w hw 41 rfl)) (by decide) (backOf (W := 2) (rm_get2_1 l Z a0 hw [] q0 t0 k0 x0 x1 _ _ _ _ _ _ _ _ h0 n0 O0 hE P1 P3 P2 P0 ) hZ (own_w hw 80 rfl) (own_w hw 2 rfl) (by decide) (by decide)) q13a q13b q13c (g := (mkF m 15 #[.val (.ref q0)] [(.int (1 : Int32)), (.ref q0), (.long p0)])) rfl (by rw [hml]; rfl) (Steps.refl _) (argsL := [(.int (1 : Int32))]) (rest := [(.long p0)]) (lenOf pd__I_Ljava_lang_Object_ rfl) rfl (by show 2 * 0 + _ ≤ _; exact Nat.le_of_eq rfl) (hb hby d_prog_5_method_2_code_15) (fun _ _ => ⟨rfl, hp12, (by decide : 0 + 0 ≤ _), (by decide : 0 + 0 ≤ _)⟩)
  dsimp only [Pt.U, Pt.locs, Pt.cells, Pt.slots] at X13 l13 y13 z13 st13 hQ13
  subst l13 y13 z13
  obtain ⟨rfl, N13q, hp13⟩ := hQ13
  have N13 := Fr.app N12 N13q
  obtain ⟨T14, X14, e14, st14⟩ := castY X13 hx hZ hown (own_w hw 94 rfl) hp13 (Ins.self P6) (g := (mkF m 20 #[.val (.ref q0)] [(.ref x1), (.long p0)])) rfl rfl (hb hby d_prog_5_method_2_code_20)
  obtain ⟨cq15, kq15, q15a, q15b, q15c⟩ := isOf hZ e14 P6
  obtain ⟨_, _, ⟨T15, L15, k15, n15⟩, -, X15, ⟨Lc15, hQ15, l15, y15, z15⟩, st15⟩ := X14.virtualBack hx (y := own_m15) (z := own_m15) hown (mvT hZ (own_w hw 96 rfl)) (mvT hZ (own_w hw 97 rfl)) (notFace_of_selects (args := #[]) (mvT hZ (own_w hw 99 rfl))) (mvT hZ (own_w hw 99 rfl)) (mvT hZ (own_w hw 98 rfl)) (by decide) (backOf (W := 2) (rm_lgv l Z a0 hw [] x1 p1 _ _ _ _ _ _ _ _ h0 n0 O0 hE P7 ) hZ (own_w hw 100 rfl) (own_w hw 28 rfl) (by decide) (by decide)) q15a q15c (g := (mkF m 23 #[.val (.ref q0)] [(.ref x1), (.long p0)])) rfl (by rw [hml]; rfl) (Steps.refl _) (argsL := []) (rest := [(.long p0)]) (lenOf pd___J rfl) rfl (by show 2 * 0 + _ ≤ _; exact Nat.le_of_eq rfl) (hb hby d_prog_5_method_2_code_23) (fun _ _ => ⟨rfl, e14, (by decide : 0 + 0 ≤ _), (by decide : 0 + 0 ≤ _)⟩)
  dsimp only [Pt.U, Pt.locs, Pt.cells, Pt.slots] at X15 l15 y15 z15 st15 hQ15
  subst l15 y15 z15
  obtain ⟨rfl, N15q, hp15⟩ := hQ15
  have N15 := Fr.app N13 N15q
  obtain ⟨_, _, ⟨T16, L16, k16, n16⟩, -, X16, ⟨Lc16, hQ16, l16, y16, z16⟩, st16⟩ := Jvm.LawKit.callS X15 hx (y := own_m18) hown (mvT hZ (own_w hw 103 rfl)) (mvT hZ (own_w hw 104 rfl)) (mvT hZ (own_w hw 71 rfl)) (mvT hZ (own_w hw 105 rfl)) (by decide) (backOf (W := 0) (rm_of l Z a0 hw [] p0 p1 _ _ _ _ _ _ _ _ h0 n0 O0 hE  ) hZ (own_w hw 105 rfl) (own_w hw 71 rfl) (by decide) (by decide)) (g := (mkF m 26 #[.val (.ref q0)] [(.long p1), (.long p0)])) rfl (by rw [hml]; rfl) (argsL := [(.long p0), (.long p1)]) (rest := []) (lenOf pd__JJ_Lcom_example_plus1_plus1_Take_ rfl) rfl (by show 2 * 0 + _ ≤ _; exact Nat.le_of_eq rfl) (hb hby d_prog_5_method_2_code_26) (fun _ _ => ⟨rfl, hp15, (by decide : 0 + 1 ≤ _), (by decide : 0 + 3 ≤ _)⟩)
  dsimp only [Pt.U, Pt.locs, Pt.cells, Pt.slots] at X16 l16 y16 z16 st16 hQ16
  subst l16 y16 z16
  obtain ⟨b16, rfl, N16q, O16, Kc16, g_b16, gs_b16, F16_0, F16_1, F16_2, F16_3⟩ := hQ16
  have N16 := Fr.app N15 N16q
  have K16 := K00.trans Kc16 (fun x hx => nomatch hx)
  have s_b16 := Nat.le_trans K00.1 gs_b16
  have lt_b16 := F16_0.lt
  have k17 : ∀ t, own_At p e below m T16 29 #[.val (.ref q0)] [(.ref b16)] t → own_En p e below m s₁ #[(.ref q0)] 1 t := by
    intro t k
    refine k00 t ?_
    refine XS.aloadN X00.here hx rfl (hb hby d_prog_5_method_2_code_0) rfl rfl ?_
    show own_At p e below m s₁ 1 #[.val (.ref q0)] [(.ref q0)] t
    refine XS.iconst X00.here hx rfl (hb hby d_prog_5_method_2_code_1) ?_
    show own_At p e below m s₁ 2 #[.val (.ref q0)] [(.int (0 : Int32)), (.ref q0)] t
    refine st10.trans ?_
    show own_At p e below m T10 7 #[.val (.ref q0)] [(.ref x0)] t
    refine st11 _ ?_
    show own_At p e below m T11 10 #[.val (.ref q0)] [(.ref x0)] t
    refine st12.trans ?_
    show own_At p e below m T12 13 #[.val (.ref q0)] [(.long p0)] t
    refine XS.aloadN X12.here hx rfl (hb hby d_prog_5_method_2_code_13) rfl rfl ?_
    show own_At p e below m T12 14 #[.val (.ref q0)] [(.ref q0), (.long p0)] t
    refine XS.iconst X12.here hx rfl (hb hby d_prog_5_method_2_code_14) ?_
    show own_At p e below m T12 15 #[.val (.ref q0)] [(.int (1 : Int32)), (.ref q0), (.long p0)] t
    refine st13.trans ?_
    show own_At p e below m T13 20 #[.val (.ref q0)] [(.ref x1), (.long p0)] t
    refine st14 _ ?_
    show own_At p e below m T14 23 #[.val (.ref q0)] [(.ref x1), (.long p0)] t
    refine st15.trans ?_
    show own_At p e below m T15 26 #[.val (.ref q0)] [(.long p1), (.long p0)] t
    refine st16 _ ?_
    show own_At p e below m T16 29 #[.val (.ref q0)] [(.ref b16)] t
    exact k
  obtain ⟨fs, hr, hrun, hended, hW, hsame⟩ := X16.leave (v := some (.ref b16)) (fun h => by rw [Bd.returns] at h; cases h)
  refine hNG ⟨_, _, k17 _ ?_, hrun, hended, _, _, rfl, ?_, ⟨_, rfl⟩, hW, hsame.mono (by decide) (by decide)⟩
  · exact retOut X16 hx (t := (.object "com/example/plus1/plus1/Take")) Bd.returns rfl (Or.inr (Or.inr (Or.inr (Or.inr ⟨rfl, rfl, rfl⟩)))) (hb hby d_prog_5_method_2_code_29) hr
  · show Q_ol2 Z q0 t0 k0 x0 x1 p0 p1 a_EMPTY_ELEMENTDATA a_DEFAULTCAPACITY_EMPTY_ELEMENTDATA a_cache a_TRUE a_MILLISECONDS a_MILLISECONDS_name a_FALSE cl_cache h0 n0 _ T16.heap _
    exact ⟨b16, rfl, N16, O16, K16, g_b16, s_b16, F16_0, F16_1, F16_2, F16_3⟩
theorem ef_ol3 (m : MethodId) (x0 : Addr)  : entryFrame m #[(.ref x0)] 1 = mkF m 0 #[.val (.ref x0)] [] := by first | (simp [entryFrame, mkF, argsToLocals, Value.category]; done) | rfl
def Q_ol3 (Z : State) (q0 : Addr) (t0 : Addr) (k0 : ClassId) (x0 : Addr) (x1 : Addr) (x2 : Addr) (p0 : Int64) (p1 : Int64) (a_EMPTY_ELEMENTDATA : Addr) (a_DEFAULTCAPACITY_EMPTY_ELEMENTDATA : Addr) (a_cache : Addr) (a_TRUE : Addr) (a_MILLISECONDS : Addr) (a_MILLISECONDS_name : Addr) (a_FALSE : Addr) (cl_cache : Cell) (h0 : Heap) (n0 : Nat) (v : Option Value) (h : Heap) (L : List Loc) : Prop := ∃ (b : Addr), v = some (.ref b) ∧ Fr n0 L ∧ Old Z n0 h ∧ Keep h0 h [] ∧ n0 ≤ b ∧ h0.size ≤ b ∧ Exa Z h b "com/example/plus1/plus1/Take" ∧ Fld Z h b "com/example/plus1/plus1/Take" "holds" "J" (.long p0) ∧ Fld Z h b "com/example/plus1/plus1/Take" "retryMillis" "J" (.long p1) ∧ Fld Z h b "com/example/plus1/plus1/Take" "heldBefore" "Ljava/lang/Boolean;" (.ref (own_held p0 a_TRUE a_FALSE))
set_option maxRecDepth 65536 in
set_option maxHeartbeats 40000000 in
theorem rm_ol3 (l : Launch) (Z : State) (a0 : Array Value) (hw : ∀ d ∈ tables_1, d.before a0 Z = true) (ws : List Jvm.Cond) (q0 : Addr) (t0 : Addr) (k0 : ClassId) (x0 : Addr) (x1 : Addr) (x2 : Addr) (p0 : Int64) (p1 : Int64) (a_EMPTY_ELEMENTDATA : Addr) (a_DEFAULTCAPACITY_EMPTY_ELEMENTDATA : Addr) (a_cache : Addr) (a_TRUE : Addr) (a_MILLISECONDS : Addr) (a_MILLISECONDS_name : Addr) (a_FALSE : Addr) (cl_cache : Cell) (h0 : Heap) (n0 : Nat) (O0 : Old Z n0 h0) (hE : EV Z a_EMPTY_ELEMENTDATA a_DEFAULTCAPACITY_EMPTY_ELEMENTDATA a_cache a_TRUE a_MILLISECONDS a_MILLISECONDS_name a_FALSE cl_cache) (P0 : Exa Z h0 q0 "java/util/ArrayList") (P1 : Fld Z h0 q0 "java/util/ArrayList" "elementData" "[Ljava/lang/Object;" (.ref t0)) (P2 : Fld Z h0 q0 "java/util/ArrayList" "size" "I" (.int (3 : Int32))) (P3 : Arv Z h0 t0 k0 (.object "java/lang/Object") (10 : Int32) [(.ref x0), (.ref x1), (.ref x2), .null, .null, .null, .null, .null, .null, .null] .null) (P4 : Exa Z h0 x0 "java/lang/Long") (P5 : Fld Z h0 x0 "java/lang/Long" "value" "J" (.long p0)) (P6 : Exa Z h0 x1 "java/lang/Long") (P7 : Fld Z h0 x1 "java/lang/Long" "value" "J" (.long p1)) :
    MetFree l own_m26 (head1 (Jvm.Cond.code own_m26 prog_5_method_2_code 1 (some (.object "com/example/plus1/plus1/Take")) :: ws) ({ frames := 3, cells := 1, slots := 3, locals := 45 } : Room)) (fun a U => a = #[(.ref q0)] ∧ Z.Warmed39 U.vm ∧ U.heap = h0) (fun _ _ _ _ _ => True) (fun _ U o U' => ∃ v L, o = .returned v ∧ Q_ol3 Z q0 t0 k0 x0 x1 x2 p0 p1 a_EMPTY_ELEMENTDATA a_DEFAULTCAPACITY_EMPTY_ELEMENTDATA a_cache a_TRUE a_MILLISECONDS a_MILLISECONDS_name a_FALSE cl_cache h0 n0 v U'.heap L ∧ FrameEnd U o U' L ({ frames := 3, cells := 1, slots := 3, locals := 45 } : Room).cells ({ frames := 3, cells := 1, slots := 3, locals := 45 } : Room).slots) := by
  refine MetFree.of_bodySF (plainFor_of_name pn_com_example_plus1_plus1_Take) hisR ?_
  intro p e s m args below meth c s₁ Bd hml0 hP hK
  obtain ⟨rfl, hZ, hh⟩ := hP
  have hx := Bd.exec
  have hby := Bd.bytes
  have hml : c.maxLocals = 1 := hml0
  have hown : s.vm.findClass "com/example/plus1/plus1/Take" = some m.cls := findClass_of_methodNamed Bd.named
  have hnm := (name_of_methodNamed Bd.named Bd.method).1
  have X00 : Stand p l e ({ frames := 3, cells := 1, slots := 3, locals := 45 } : Room) s m #[(.ref q0)] below meth c s₁ [] 0 0 := Stand.of_body Bd
  have e00 : s₁.heap = h0 := by rw [← hh, Bd.state]; rfl
  have N00 := Fr.nil n0
  refine Classical.byContradiction fun hNG => ?_
  have K00 := Keep.refl h0 []
  have k00 : ∀ t, own_At p e below m s₁ 0 #[.val (.ref q0)] [] t → own_En p e below m s₁ #[(.ref q0)] 1 t := fun t k => castTop (ef_ol3 m q0 ) k
  obtain ⟨S_EMPTY_ELEMENTDATA, E_EMPTY_ELEMENTDATA, S_DEFAULTCAPACITY_EMPTY_ELEMENTDATA, E_DEFAULTCAPACITY_EMPTY_ELEMENTDATA, S_cache, E_cache, S_TRUE, E_TRUE, F_TRUE_value, S_MILLISECONDS, E_MILLISECONDS, F_MILLISECONDS_name, E_MILLISECONDS_name, F_MILLISECONDS_ordinal, F_MILLISECONDS_scale, F_MILLISECONDS_maxNanos, F_MILLISECONDS_microRatio, F_MILLISECONDS_maxMicros, F_MILLISECONDS_milliRatio, F_MILLISECONDS_maxMillis, F_MILLISECONDS_secRatio, F_MILLISECONDS_maxSecs, S_FALSE, E_FALSE, F_FALSE_value, C_EMPTY_ELEMENTDATA, C_DEFAULTCAPACITY_EMPTY_ELEMENTDATA, B_cache⟩ := (id hE : EV Z a_EMPTY_ELEMENTDATA a_DEFAULTCAPACITY_EMPTY_ELEMENTDATA a_cache a_TRUE a_MILLISECONDS a_MILLISECONDS_name a_FALSE cl_cache)
  obtain ⟨k_DEF, A_DEF⟩ := C_DEFAULTCAPACITY_EMPTY_ELEMENTDATA.arv
  obtain ⟨cq10, kq10, q10a, q10b, q10c⟩ := isOf hZ e00 P0
  obtain ⟨_, _, ⟨T10, L10, k10, n10⟩, -, X10, ⟨Lc10, hQ10, l10, y10, z10⟩, st10⟩ := X00.interfaceBack hx (xi := own_m25) (y := own_m14) hown (mvT hZ (own_w hw 73 rfl)) (mvT hZ (own_w hw 74 rfl)) (mvT hZ (own_w hw 75 rfl)) (mvT hZ (own_w hw 76 rfl)) (mvT hZ (own_w hw 77 rfl)) (mvT hZ (own_w hw 78 rfl)) (mvT hZ (own_w hw 79 rfl)) (mvT hZ (own_w hw 41 rfl)) (by decide) (backOf (W := 0) (rm_get3_0 l Z a0 hw [] q0 t0 k0 x0 x1 x2 _ _ _ _ _ _ _ _ h0 n0 O0 hE P1 P3 P2 P0 ) hZ (own_w hw 80 rfl) (own_w hw 2 rfl) (by decide) (by decide)) q10a q10b q10c (g := (mkF m 2 #[.val (.ref q0)] [(.int (0 : Int32)), (.ref q0)])) rfl (by rw [hml]; rfl) (Steps.refl _) (argsL := [(.int (0 : Int32))]) (rest := []) (lenOf pd__I_Ljava_lang_Object_ rfl) rfl (by show 2 * 0 + _ ≤ _; exact Nat.le_of_eq rfl) (hb hby d_prog_5_method_2_code_2) (fun _ _ => ⟨rfl, e00, (by decide : 0 + 0 ≤ _), (by decide : 0 + 0 ≤ _)⟩)
  dsimp only [Pt.U, Pt.locs, Pt.cells, Pt.slots] at X10 l10 y10 z10 st10 hQ10
  subst l10 y10 z10
  obtain ⟨rfl, N10q, hp10⟩ := hQ10
  have N10 := Fr.app N00 N10q
  obtain ⟨T11, X11, e11, st11⟩ := castY X10 hx hZ hown (own_w hw 94 rfl) hp10 (Ins.self P4) (g := (mkF m 7 #[.val (.ref q0)] [(.ref x0)])) rfl rfl (hb hby d_prog_5_method_2_code_7)
  obtain ⟨cq12, kq12, q12a, q12b, q12c⟩ := isOf hZ e11 P4
  obtain ⟨_, _, ⟨T12, L12, k12, n12⟩, -, X12, ⟨Lc12, hQ12, l12, y12, z12⟩, st12⟩ := X11.virtualBack hx (y := own_m15) (z := own_m15) hown (mvT hZ (own_w hw 96 rfl)) (mvT hZ (own_w hw 97 rfl)) (notFace_of_selects (args := #[]) (mvT hZ (own_w hw 99 rfl))) (mvT hZ (own_w hw 99 rfl)) (mvT hZ (own_w hw 98 rfl)) (by decide) (backOf (W := 0) (rm_lgv l Z a0 hw [] x0 p0 _ _ _ _ _ _ _ _ h0 n0 O0 hE P5 ) hZ (own_w hw 100 rfl) (own_w hw 28 rfl) (by decide) (by decide)) q12a q12c (g := (mkF m 10 #[.val (.ref q0)] [(.ref x0)])) rfl (by rw [hml]; rfl) (Steps.refl _) (argsL := []) (rest := []) (lenOf pd___J rfl) rfl (by show 2 * 0 + _ ≤ _; exact Nat.le_of_eq rfl) (hb hby d_prog_5_method_2_code_10) (fun _ _ => ⟨rfl, e11, (by decide : 0 + 0 ≤ _), (by decide : 0 + 0 ≤ _)⟩)
  dsimp only [Pt.U, Pt.locs, Pt.cells, Pt.slots] at X12 l12 y12 z12 st12 hQ12
  subst l12 y12 z12
  obtain ⟨rfl, N12q, hp12⟩ := hQ12
  have N12 := Fr.app N10 N12q
  obtain ⟨cq13, kq13, q13a, q13b, q13c⟩ := isOf hZ hp12 P0
  obtain ⟨_, _, ⟨T13, L13, k13, n13⟩, -, X13, ⟨Lc13, hQ13, l13, y13, z13⟩, st13⟩ := X12.interfaceBack hx (xi := own_m25) (y := own_m14) hown (mvT hZ (own_w hw 73 rfl)) (mvT hZ (own_w hw 74 rfl)) (mvT hZ (own_w hw 75 rfl)) (mvT hZ (own_w hw 76 rfl)) (mvT hZ (own_w hw 77 rfl)) (mvT hZ (own_w hw 78 rfl)) (mvT hZ (own_w hw 79 rfl)) (mvT hZ (own_w hw 41 rfl)) (by decide) (backOf (W := 2) (rm_get3_1 l Z a0 hw [] q0 t0 k0 x0 x1 x2 _ _ _ _ _ _ _ _ h0 n0 O0 hE P1 P3 P2 P0 ) hZ (own_w hw 80 rfl) (own_w hw 2 rfl) (by decide) (by decide)) q13a q13b q13c (g := (mkF m 15 #[.val (.ref q0)] [(.int (1 : Int32)), (.ref q0), (.long p0)])) rfl (by rw [hml]; rfl) (Steps.refl _) (argsL := [(.int (1 : Int32))]) (rest := [(.long p0)]) (lenOf pd__I_Ljava_lang_Object_ rfl) rfl (by show 2 * 0 + _ ≤ _; exact Nat.le_of_eq rfl) (hb hby d_prog_5_method_2_code_15) (fun _ _ => ⟨rfl, hp12, (by decide : 0 + 0 ≤ _), (by decide : 0 + 0 ≤ _)⟩)
  dsimp only [Pt.U, Pt.locs, Pt.cells, Pt.slots] at X13 l13 y13 z13 st13 hQ13
  subst l13 y13 z13
  obtain ⟨rfl, N13q, hp13⟩ := hQ13
  have N13 := Fr.app N12 N13q
  obtain ⟨T14, X14, e14, st14⟩ := castY X13 hx hZ hown (own_w hw 94 rfl) hp13 (Ins.self P6) (g := (mkF m 20 #[.val (.ref q0)] [(.ref x1), (.long p0)])) rfl rfl (hb hby d_prog_5_method_2_code_20)
  obtain ⟨cq15, kq15, q15a, q15b, q15c⟩ := isOf hZ e14 P6
  obtain ⟨_, _, ⟨T15, L15, k15, n15⟩, -, X15, ⟨Lc15, hQ15, l15, y15, z15⟩, st15⟩ := X14.virtualBack hx (y := own_m15) (z := own_m15) hown (mvT hZ (own_w hw 96 rfl)) (mvT hZ (own_w hw 97 rfl)) (notFace_of_selects (args := #[]) (mvT hZ (own_w hw 99 rfl))) (mvT hZ (own_w hw 99 rfl)) (mvT hZ (own_w hw 98 rfl)) (by decide) (backOf (W := 2) (rm_lgv l Z a0 hw [] x1 p1 _ _ _ _ _ _ _ _ h0 n0 O0 hE P7 ) hZ (own_w hw 100 rfl) (own_w hw 28 rfl) (by decide) (by decide)) q15a q15c (g := (mkF m 23 #[.val (.ref q0)] [(.ref x1), (.long p0)])) rfl (by rw [hml]; rfl) (Steps.refl _) (argsL := []) (rest := [(.long p0)]) (lenOf pd___J rfl) rfl (by show 2 * 0 + _ ≤ _; exact Nat.le_of_eq rfl) (hb hby d_prog_5_method_2_code_23) (fun _ _ => ⟨rfl, e14, (by decide : 0 + 0 ≤ _), (by decide : 0 + 0 ≤ _)⟩)
  dsimp only [Pt.U, Pt.locs, Pt.cells, Pt.slots] at X15 l15 y15 z15 st15 hQ15
  subst l15 y15 z15
  obtain ⟨rfl, N15q, hp15⟩ := hQ15
  have N15 := Fr.app N13 N15q
  obtain ⟨_, _, ⟨T16, L16, k16, n16⟩, -, X16, ⟨Lc16, hQ16, l16, y16, z16⟩, st16⟩ := Jvm.LawKit.callS X15 hx (y := own_m18) hown (mvT hZ (own_w hw 103 rfl)) (mvT hZ (own_w hw 104 rfl)) (mvT hZ (own_w hw 71 rfl)) (mvT hZ (own_w hw 105 rfl)) (by decide) (backOf (W := 0) (rm_of l Z a0 hw [] p0 p1 _ _ _ _ _ _ _ _ h0 n0 O0 hE  ) hZ (own_w hw 105 rfl) (own_w hw 71 rfl) (by decide) (by decide)) (g := (mkF m 26 #[.val (.ref q0)] [(.long p1), (.long p0)])) rfl (by rw [hml]; rfl) (argsL := [(.long p0), (.long p1)]) (rest := []) (lenOf pd__JJ_Lcom_example_plus1_plus1_Take_ rfl) rfl (by show 2 * 0 + _ ≤ _; exact Nat.le_of_eq rfl) (hb hby d_prog_5_method_2_code_26) (fun _ _ => ⟨rfl, hp15, (by decide : 0 + 1 ≤ _), (by decide : 0 + 3 ≤ _)⟩)
  dsimp only [Pt.U, Pt.locs, Pt.cells, Pt.slots] at X16 l16 y16 z16 st16 hQ16
  subst l16 y16 z16
  obtain ⟨b16, rfl, N16q, O16, Kc16, g_b16, gs_b16, F16_0, F16_1, F16_2, F16_3⟩ := hQ16
  have N16 := Fr.app N15 N16q
  have K16 := K00.trans Kc16 (fun x hx => nomatch hx)
  have s_b16 := Nat.le_trans K00.1 gs_b16
  have lt_b16 := F16_0.lt
  have k17 : ∀ t, own_At p e below m T16 29 #[.val (.ref q0)] [(.ref b16)] t → own_En p e below m s₁ #[(.ref q0)] 1 t := by
    intro t k
    refine k00 t ?_
    refine XS.aloadN X00.here hx rfl (hb hby d_prog_5_method_2_code_0) rfl rfl ?_
    show own_At p e below m s₁ 1 #[.val (.ref q0)] [(.ref q0)] t
    refine XS.iconst X00.here hx rfl (hb hby d_prog_5_method_2_code_1) ?_
    show own_At p e below m s₁ 2 #[.val (.ref q0)] [(.int (0 : Int32)), (.ref q0)] t
    refine st10.trans ?_
    show own_At p e below m T10 7 #[.val (.ref q0)] [(.ref x0)] t
    refine st11 _ ?_
    show own_At p e below m T11 10 #[.val (.ref q0)] [(.ref x0)] t
    refine st12.trans ?_
    show own_At p e below m T12 13 #[.val (.ref q0)] [(.long p0)] t
    refine XS.aloadN X12.here hx rfl (hb hby d_prog_5_method_2_code_13) rfl rfl ?_
    show own_At p e below m T12 14 #[.val (.ref q0)] [(.ref q0), (.long p0)] t
    refine XS.iconst X12.here hx rfl (hb hby d_prog_5_method_2_code_14) ?_
    show own_At p e below m T12 15 #[.val (.ref q0)] [(.int (1 : Int32)), (.ref q0), (.long p0)] t
    refine st13.trans ?_
    show own_At p e below m T13 20 #[.val (.ref q0)] [(.ref x1), (.long p0)] t
    refine st14 _ ?_
    show own_At p e below m T14 23 #[.val (.ref q0)] [(.ref x1), (.long p0)] t
    refine st15.trans ?_
    show own_At p e below m T15 26 #[.val (.ref q0)] [(.long p1), (.long p0)] t
    refine st16 _ ?_
    show own_At p e below m T16 29 #[.val (.ref q0)] [(.ref b16)] t
    exact k
  obtain ⟨fs, hr, hrun, hended, hW, hsame⟩ := X16.leave (v := some (.ref b16)) (fun h => by rw [Bd.returns] at h; cases h)
  refine hNG ⟨_, _, k17 _ ?_, hrun, hended, _, _, rfl, ?_, ⟨_, rfl⟩, hW, hsame.mono (by decide) (by decide)⟩
  · exact retOut X16 hx (t := (.object "com/example/plus1/plus1/Take")) Bd.returns rfl (Or.inr (Or.inr (Or.inr (Or.inr ⟨rfl, rfl, rfl⟩)))) (hb hby d_prog_5_method_2_code_29) hr
  · show Q_ol3 Z q0 t0 k0 x0 x1 x2 p0 p1 a_EMPTY_ELEMENTDATA a_DEFAULTCAPACITY_EMPTY_ELEMENTDATA a_cache a_TRUE a_MILLISECONDS a_MILLISECONDS_name a_FALSE cl_cache h0 n0 _ T16.heap _
    exact ⟨b16, rfl, N16, O16, K16, g_b16, s_b16, F16_0, F16_1, F16_2, F16_3⟩
theorem ef_law (m : MethodId) (x0 : Int64) (x1 : Int64) (x2 : Int64) (x3 : Int32)  : entryFrame m #[(.long x0), (.long x1), (.long x2), (.int x3)] maxLocals = mkF m 0 #[.val (.long x0), .second, .val (.long x1), .second, .val (.long x2), .second, .val (.int x3), .unset, .unset, .unset, .unset, .unset, .unset, .unset] [] := by first | (simp [entryFrame, mkF, argsToLocals, Value.category, maxLocals]; done) | rfl
theorem pd__J_Ljava_lang_Long_ : parseMethodDescriptor "(J)Ljava/lang/Long;" = some ⟨[.long], some (.object "java/lang/Long")⟩ := by decide +kernel
theorem pd__Ljava_lang_Object__Z : parseMethodDescriptor "(Ljava/lang/Object;)Z" = some ⟨[(.object "java/lang/Object")], some .boolean⟩ := by decide +kernel
abbrev own_m27 : MethodName := ⟨"java/util/List", "add", "(Ljava/lang/Object;)Z"⟩
theorem pd__Ljava_util_List__Lcom_example_plus1_plus1_Take_ : parseMethodDescriptor "(Ljava/util/List;)Lcom/example/plus1/plus1/Take;" = some ⟨[(.object "java/util/List")], some (.object "com/example/plus1/plus1/Take")⟩ := by decide +kernel
theorem pd___Ljava_lang_Boolean_ : parseMethodDescriptor "()Ljava/lang/Boolean;" = some ⟨[], some (.object "java/lang/Boolean")⟩ := by decide +kernel
theorem ef_f14 (m : MethodId) (x0 : Addr)  : entryFrame m #[(.ref x0)] 1 = mkF m 0 #[.val (.ref x0)] [] := by first | (simp [entryFrame, mkF, argsToLocals, Value.category]; done) | rfl
theorem d_jdk_2055_method_4_code_0 : decode jdk_2055_method_4_code 0 = .ok (.aload_n 0, 1) := by decide +kernel
theorem d_jdk_2055_method_4_code_1 : decode jdk_2055_method_4_code 1 = .ok (.getfield 7, 3) := by decide +kernel
theorem d_jdk_2055_method_4_code_4 : decode jdk_2055_method_4_code 4 = .ok (.ireturn, 1) := by decide +kernel
abbrev own_m28 : MethodName := ⟨"java/lang/Boolean", "booleanValue", "()Z"⟩
def Q_f14 (Z : State) (a_EMPTY_ELEMENTDATA : Addr) (a_DEFAULTCAPACITY_EMPTY_ELEMENTDATA : Addr) (a_cache : Addr) (a_TRUE : Addr) (a_MILLISECONDS : Addr) (a_MILLISECONDS_name : Addr) (a_FALSE : Addr) (cl_cache : Cell) (h0 : Heap) (n0 : Nat) (v : Option Value) (h : Heap) (L : List Loc) : Prop := v = some (.int (1 : Int32)) ∧ Fr n0 L ∧ h = h0
set_option maxRecDepth 65536 in
set_option maxHeartbeats 40000000 in
theorem rm_f14 (l : Launch) (Z : State) (a0 : Array Value) (hw : ∀ d ∈ tables_1, d.before a0 Z = true) (ws : List Jvm.Cond) (a_EMPTY_ELEMENTDATA : Addr) (a_DEFAULTCAPACITY_EMPTY_ELEMENTDATA : Addr) (a_cache : Addr) (a_TRUE : Addr) (a_MILLISECONDS : Addr) (a_MILLISECONDS_name : Addr) (a_FALSE : Addr) (cl_cache : Cell) (h0 : Heap) (n0 : Nat) (O0 : Old Z n0 h0) (hE : EV Z a_EMPTY_ELEMENTDATA a_DEFAULTCAPACITY_EMPTY_ELEMENTDATA a_cache a_TRUE a_MILLISECONDS a_MILLISECONDS_name a_FALSE cl_cache) :
    MetFree l own_m28 (head1 (Jvm.Cond.code own_m28 jdk_2055_method_4_code 1 (some .boolean) :: ws) ({ frames := 0, cells := 0, slots := 0, locals := 0 } : Room)) (fun a U => a = #[(.ref a_TRUE)] ∧ Z.Warmed39 U.vm ∧ U.heap = h0) (fun _ _ _ _ _ => True) (fun _ U o U' => ∃ v L, o = .returned v ∧ Q_f14 Z a_EMPTY_ELEMENTDATA a_DEFAULTCAPACITY_EMPTY_ELEMENTDATA a_cache a_TRUE a_MILLISECONDS a_MILLISECONDS_name a_FALSE cl_cache h0 n0 v U'.heap L ∧ FrameEnd U o U' L ({ frames := 0, cells := 0, slots := 0, locals := 0 } : Room).cells ({ frames := 0, cells := 0, slots := 0, locals := 0 } : Room).slots) := by
  refine MetFree.of_bodySF (plainFor_of_name pn_java_lang_Boolean) hisR ?_
  intro p e s m args below meth c s₁ Bd hml0 hP hK
  obtain ⟨rfl, hZ, hh⟩ := hP
  have hx := Bd.exec
  have hby := Bd.bytes
  have hml : c.maxLocals = 1 := hml0
  have hown : s.vm.findClass "java/lang/Boolean" = some m.cls := findClass_of_methodNamed Bd.named
  have hnm := (name_of_methodNamed Bd.named Bd.method).1
  have X00 : Stand p l e ({ frames := 0, cells := 0, slots := 0, locals := 0 } : Room) s m #[(.ref a_TRUE)] below meth c s₁ [] 0 0 := Stand.of_body Bd
  have e00 : s₁.heap = h0 := by rw [← hh, Bd.state]; rfl
  have N00 := Fr.nil n0
  refine Classical.byContradiction fun hNG => ?_
  have K00 := Keep.refl h0 []
  have k00 : ∀ t, own_At p e below m s₁ 0 #[.val (.ref a_TRUE)] [] t → own_En p e below m s₁ #[(.ref a_TRUE)] 1 t := fun t k => castTop (ef_f14 m a_TRUE ) k
  obtain ⟨S_EMPTY_ELEMENTDATA, E_EMPTY_ELEMENTDATA, S_DEFAULTCAPACITY_EMPTY_ELEMENTDATA, E_DEFAULTCAPACITY_EMPTY_ELEMENTDATA, S_cache, E_cache, S_TRUE, E_TRUE, F_TRUE_value, S_MILLISECONDS, E_MILLISECONDS, F_MILLISECONDS_name, E_MILLISECONDS_name, F_MILLISECONDS_ordinal, F_MILLISECONDS_scale, F_MILLISECONDS_maxNanos, F_MILLISECONDS_microRatio, F_MILLISECONDS_maxMicros, F_MILLISECONDS_milliRatio, F_MILLISECONDS_maxMillis, F_MILLISECONDS_secRatio, F_MILLISECONDS_maxSecs, S_FALSE, E_FALSE, F_FALSE_value, C_EMPTY_ELEMENTDATA, C_DEFAULTCAPACITY_EMPTY_ELEMENTDATA, B_cache⟩ := (id hE : EV Z a_EMPTY_ELEMENTDATA a_DEFAULTCAPACITY_EMPTY_ELEMENTDATA a_cache a_TRUE a_MILLISECONDS a_MILLISECONDS_name a_FALSE cl_cache)
  obtain ⟨k_DEF, A_DEF⟩ := C_DEFAULTCAPACITY_EMPTY_ELEMENTDATA.arv
  obtain ⟨T10, X10, e10, st10⟩ := getF X00 hx hZ hown (host := "") (Or.inl (own_w hw 143 rfl)) Via.refl e00 (F_TRUE_value.ext O0.2) (g := (mkF m 1 #[.val (.ref a_TRUE)] [(.ref a_TRUE)])) rfl rfl (hb hby d_jdk_2055_method_4_code_1)
  have k11 : ∀ t, own_At p e below m T10 4 #[.val (.ref a_TRUE)] [(.int (1 : Int32))] t → own_En p e below m s₁ #[(.ref a_TRUE)] 1 t := by
    intro t k
    refine k00 t ?_
    refine XS.aloadN X00.here hx rfl (hb hby d_jdk_2055_method_4_code_0) rfl rfl ?_
    show own_At p e below m s₁ 1 #[.val (.ref a_TRUE)] [(.ref a_TRUE)] t
    refine st10 _ ?_
    show own_At p e below m T10 4 #[.val (.ref a_TRUE)] [(.int (1 : Int32))] t
    exact k
  obtain ⟨fs, hr, hrun, hended, hW, hsame⟩ := X10.leave (v := some (.int (1 : Int32))) (fun h => by rw [Bd.returns] at h; cases h)
  refine hNG ⟨_, _, k11 _ ?_, hrun, hended, _, _, rfl, ?_, ⟨_, rfl⟩, hW, hsame.mono (by decide) (by decide)⟩
  · exact retN X10 hx (t := .boolean) Bd.returns (by simp) (hb hby d_jdk_2055_method_4_code_4) hr
  · show Q_f14 Z a_EMPTY_ELEMENTDATA a_DEFAULTCAPACITY_EMPTY_ELEMENTDATA a_cache a_TRUE a_MILLISECONDS a_MILLISECONDS_name a_FALSE cl_cache h0 n0 _ T10.heap _
    rw [e10]
    exact ⟨rfl, N00, rfl⟩
theorem pd___Z : parseMethodDescriptor "()Z" = some ⟨[], some .boolean⟩ := by decide +kernel
theorem ef_f15 (m : MethodId) (x0 : Addr)  : entryFrame m #[(.ref x0)] 1 = mkF m 0 #[.val (.ref x0)] [] := by first | (simp [entryFrame, mkF, argsToLocals, Value.category]; done) | rfl
def Q_f15 (Z : State) (a_EMPTY_ELEMENTDATA : Addr) (a_DEFAULTCAPACITY_EMPTY_ELEMENTDATA : Addr) (a_cache : Addr) (a_TRUE : Addr) (a_MILLISECONDS : Addr) (a_MILLISECONDS_name : Addr) (a_FALSE : Addr) (cl_cache : Cell) (h0 : Heap) (n0 : Nat) (v : Option Value) (h : Heap) (L : List Loc) : Prop := v = some (.int (0 : Int32)) ∧ Fr n0 L ∧ h = h0
set_option maxRecDepth 65536 in
set_option maxHeartbeats 40000000 in
theorem rm_f15 (l : Launch) (Z : State) (a0 : Array Value) (hw : ∀ d ∈ tables_1, d.before a0 Z = true) (ws : List Jvm.Cond) (a_EMPTY_ELEMENTDATA : Addr) (a_DEFAULTCAPACITY_EMPTY_ELEMENTDATA : Addr) (a_cache : Addr) (a_TRUE : Addr) (a_MILLISECONDS : Addr) (a_MILLISECONDS_name : Addr) (a_FALSE : Addr) (cl_cache : Cell) (h0 : Heap) (n0 : Nat) (O0 : Old Z n0 h0) (hE : EV Z a_EMPTY_ELEMENTDATA a_DEFAULTCAPACITY_EMPTY_ELEMENTDATA a_cache a_TRUE a_MILLISECONDS a_MILLISECONDS_name a_FALSE cl_cache) :
    MetFree l own_m28 (head1 (Jvm.Cond.code own_m28 jdk_2055_method_4_code 1 (some .boolean) :: ws) ({ frames := 0, cells := 0, slots := 0, locals := 0 } : Room)) (fun a U => a = #[(.ref a_FALSE)] ∧ Z.Warmed39 U.vm ∧ U.heap = h0) (fun _ _ _ _ _ => True) (fun _ U o U' => ∃ v L, o = .returned v ∧ Q_f15 Z a_EMPTY_ELEMENTDATA a_DEFAULTCAPACITY_EMPTY_ELEMENTDATA a_cache a_TRUE a_MILLISECONDS a_MILLISECONDS_name a_FALSE cl_cache h0 n0 v U'.heap L ∧ FrameEnd U o U' L ({ frames := 0, cells := 0, slots := 0, locals := 0 } : Room).cells ({ frames := 0, cells := 0, slots := 0, locals := 0 } : Room).slots) := by
  refine MetFree.of_bodySF (plainFor_of_name pn_java_lang_Boolean) hisR ?_
  intro p e s m args below meth c s₁ Bd hml0 hP hK
  obtain ⟨rfl, hZ, hh⟩ := hP
  have hx := Bd.exec
  have hby := Bd.bytes
  have hml : c.maxLocals = 1 := hml0
  have hown : s.vm.findClass "java/lang/Boolean" = some m.cls := findClass_of_methodNamed Bd.named
  have hnm := (name_of_methodNamed Bd.named Bd.method).1
  have X00 : Stand p l e ({ frames := 0, cells := 0, slots := 0, locals := 0 } : Room) s m #[(.ref a_FALSE)] below meth c s₁ [] 0 0 := Stand.of_body Bd
  have e00 : s₁.heap = h0 := by rw [← hh, Bd.state]; rfl
  have N00 := Fr.nil n0
  refine Classical.byContradiction fun hNG => ?_
  have K00 := Keep.refl h0 []
  have k00 : ∀ t, own_At p e below m s₁ 0 #[.val (.ref a_FALSE)] [] t → own_En p e below m s₁ #[(.ref a_FALSE)] 1 t := fun t k => castTop (ef_f15 m a_FALSE ) k
  obtain ⟨S_EMPTY_ELEMENTDATA, E_EMPTY_ELEMENTDATA, S_DEFAULTCAPACITY_EMPTY_ELEMENTDATA, E_DEFAULTCAPACITY_EMPTY_ELEMENTDATA, S_cache, E_cache, S_TRUE, E_TRUE, F_TRUE_value, S_MILLISECONDS, E_MILLISECONDS, F_MILLISECONDS_name, E_MILLISECONDS_name, F_MILLISECONDS_ordinal, F_MILLISECONDS_scale, F_MILLISECONDS_maxNanos, F_MILLISECONDS_microRatio, F_MILLISECONDS_maxMicros, F_MILLISECONDS_milliRatio, F_MILLISECONDS_maxMillis, F_MILLISECONDS_secRatio, F_MILLISECONDS_maxSecs, S_FALSE, E_FALSE, F_FALSE_value, C_EMPTY_ELEMENTDATA, C_DEFAULTCAPACITY_EMPTY_ELEMENTDATA, B_cache⟩ := (id hE : EV Z a_EMPTY_ELEMENTDATA a_DEFAULTCAPACITY_EMPTY_ELEMENTDATA a_cache a_TRUE a_MILLISECONDS a_MILLISECONDS_name a_FALSE cl_cache)
  obtain ⟨k_DEF, A_DEF⟩ := C_DEFAULTCAPACITY_EMPTY_ELEMENTDATA.arv
  obtain ⟨T10, X10, e10, st10⟩ := getF X00 hx hZ hown (host := "") (Or.inl (own_w hw 143 rfl)) Via.refl e00 (F_FALSE_value.ext O0.2) (g := (mkF m 1 #[.val (.ref a_FALSE)] [(.ref a_FALSE)])) rfl rfl (hb hby d_jdk_2055_method_4_code_1)
  have k11 : ∀ t, own_At p e below m T10 4 #[.val (.ref a_FALSE)] [(.int (0 : Int32))] t → own_En p e below m s₁ #[(.ref a_FALSE)] 1 t := by
    intro t k
    refine k00 t ?_
    refine XS.aloadN X00.here hx rfl (hb hby d_jdk_2055_method_4_code_0) rfl rfl ?_
    show own_At p e below m s₁ 1 #[.val (.ref a_FALSE)] [(.ref a_FALSE)] t
    refine st10 _ ?_
    show own_At p e below m T10 4 #[.val (.ref a_FALSE)] [(.int (0 : Int32))] t
    exact k
  obtain ⟨fs, hr, hrun, hended, hW, hsame⟩ := X10.leave (v := some (.int (0 : Int32))) (fun h => by rw [Bd.returns] at h; cases h)
  refine hNG ⟨_, _, k11 _ ?_, hrun, hended, _, _, rfl, ?_, ⟨_, rfl⟩, hW, hsame.mono (by decide) (by decide)⟩
  · exact retN X10 hx (t := .boolean) Bd.returns (by simp) (hb hby d_jdk_2055_method_4_code_4) hr
  · show Q_f15 Z a_EMPTY_ELEMENTDATA a_DEFAULTCAPACITY_EMPTY_ELEMENTDATA a_cache a_TRUE a_MILLISECONDS a_MILLISECONDS_name a_FALSE cl_cache h0 n0 _ T10.heap _
    rw [e10]
    exact ⟨rfl, N00, rfl⟩
def Q_law (Z : State) (p0 : Int64) (p1 : Int64) (p2 : Int64) (p3 : Int32) (a_EMPTY_ELEMENTDATA : Addr) (a_DEFAULTCAPACITY_EMPTY_ELEMENTDATA : Addr) (a_cache : Addr) (a_TRUE : Addr) (a_MILLISECONDS : Addr) (a_MILLISECONDS_name : Addr) (a_FALSE : Addr) (cl_cache : Cell) (h0 : Heap) (n0 : Nat) (v : Option Value) (h : Heap) (L : List Loc) : Prop := v = some (.int (1 : Int32)) ∧ Fr n0 L
set_option maxRecDepth 65536 in
set_option maxHeartbeats 40000000 in
theorem rm_law (l : Launch) (Z : State) (a0 : Array Value) (hw : ∀ d ∈ tables_1, d.before a0 Z = true) (ws : List Jvm.Cond) (p0 : Int64) (p1 : Int64) (p2 : Int64) (p3 : Int32) (a_EMPTY_ELEMENTDATA : Addr) (a_DEFAULTCAPACITY_EMPTY_ELEMENTDATA : Addr) (a_cache : Addr) (a_TRUE : Addr) (a_MILLISECONDS : Addr) (a_MILLISECONDS_name : Addr) (a_FALSE : Addr) (cl_cache : Cell) (h0 : Heap) (n0 : Nat) (O0 : Old Z n0 h0) (hE : EV Z a_EMPTY_ELEMENTDATA a_DEFAULTCAPACITY_EMPTY_ELEMENTDATA a_cache a_TRUE a_MILLISECONDS a_MILLISECONDS_name a_FALSE cl_cache) :
    MetFree l x (head1 (Jvm.Cond.code x code maxLocals ret :: ws) room_1) (fun a U => a = #[(.long p0), (.long p1), (.long p2), (.int p3)] ∧ Z.Warmed39 U.vm ∧ U.heap = h0) (fun _ _ _ _ _ => True) (fun _ U o U' => ∃ v L, o = .returned v ∧ Q_law Z p0 p1 p2 p3 a_EMPTY_ELEMENTDATA a_DEFAULTCAPACITY_EMPTY_ELEMENTDATA a_cache a_TRUE a_MILLISECONDS a_MILLISECONDS_name a_FALSE cl_cache h0 n0 v U'.heap L ∧ FrameEnd U o U' L 6 19) := by
  refine MetFree.of_bodySF (plainFor_of_name pn_com_example_plus1_plus1_TakeOf189PinLaw) hisR ?_
  intro p e s m args below meth c s₁ Bd hml0 hP hK
  obtain ⟨rfl, hZ, hh⟩ := hP
  have hx := Bd.exec
  have hby := Bd.bytes
  have hml : c.maxLocals = 14 := hml0
  have hown : s.vm.findClass "com/example/plus1/plus1/TakeOf189PinLaw" = some m.cls := findClass_of_methodNamed Bd.named
  have hnm := (name_of_methodNamed Bd.named Bd.method).1
  have X00 : Stand p l e room_1 s m #[(.long p0), (.long p1), (.long p2), (.int p3)] below meth c s₁ [] 0 0 := Stand.of_body Bd
  have e00 : s₁.heap = h0 := by rw [← hh, Bd.state]; rfl
  have N00 := Fr.nil n0
  refine Classical.byContradiction fun hNG => ?_
  have K00 := Keep.refl h0 []
  have k00 : ∀ t, own_At p e below m s₁ 0 #[.val (.long p0), .second, .val (.long p1), .second, .val (.long p2), .second, .val (.int p3), .unset, .unset, .unset, .unset, .unset, .unset, .unset] [] t → own_En p e below m s₁ #[(.long p0), (.long p1), (.long p2), (.int p3)] maxLocals t := fun t k => castTop (ef_law m p0 p1 p2 p3 ) k
  obtain ⟨S_EMPTY_ELEMENTDATA, E_EMPTY_ELEMENTDATA, S_DEFAULTCAPACITY_EMPTY_ELEMENTDATA, E_DEFAULTCAPACITY_EMPTY_ELEMENTDATA, S_cache, E_cache, S_TRUE, E_TRUE, F_TRUE_value, S_MILLISECONDS, E_MILLISECONDS, F_MILLISECONDS_name, E_MILLISECONDS_name, F_MILLISECONDS_ordinal, F_MILLISECONDS_scale, F_MILLISECONDS_maxNanos, F_MILLISECONDS_microRatio, F_MILLISECONDS_maxMicros, F_MILLISECONDS_milliRatio, F_MILLISECONDS_maxMillis, F_MILLISECONDS_secRatio, F_MILLISECONDS_maxSecs, S_FALSE, E_FALSE, F_FALSE_value, C_EMPTY_ELEMENTDATA, C_DEFAULTCAPACITY_EMPTY_ELEMENTDATA, B_cache⟩ := (id hE : EV Z a_EMPTY_ELEMENTDATA a_DEFAULTCAPACITY_EMPTY_ELEMENTDATA a_cache a_TRUE a_MILLISECONDS a_MILLISECONDS_name a_FALSE cl_cache)
  obtain ⟨k_DEF, A_DEF⟩ := C_DEFAULTCAPACITY_EMPTY_ELEMENTDATA.arv
  obtain ⟨T10, h10, X10, e10, E10, A10, D10, -, st10⟩ := newO X00 hx hZ hown (own_w hw 0 rfl) (own_w hw 1 rfl) (own_w hw 2 rfl) e00 (g := (mkF m 0 #[.val (.long p0), .second, .val (.long p1), .second, .val (.long p2), .second, .val (.int p3), .unset, .unset, .unset, .unset, .unset, .unset, .unset] [])) rfl (hb hby at_0) (by decide) (by decide)
  obtain ⟨b10, g10⟩ : ∃ z, z = h0.size := ⟨_, rfl⟩
  rw [← g10] at A10 D10 st10
  have O10 := O0.ext E10
  have g_b10 : n0 ≤ b10 := Nat.le_trans (Nat.le_of_eq O0.1.symm) (Nat.le_trans O0.2.1 (Nat.le_of_eq g10.symm))
  have s_b10 : h0.size ≤ b10 := Nat.le_trans K00.1 (Nat.le_of_eq g10.symm)
  have K10 := K00.ext E10
  have lt_b10 := A10.lt
  have F10_modCount : Fld Z h10 b10 "java/util/AbstractList" "modCount" "I" (.int (0 : Int32)) := D10 (Or.inl (own_w hw 22 rfl)) (ty := .int) (by decide)
  have F10_elementData : Fld Z h10 b10 "java/util/ArrayList" "elementData" "[Ljava/lang/Object;" .null := D10 (Or.inl (own_w hw 25 rfl)) (ty := (.array (.object "java/lang/Object"))) (by decide)
  have F10_size : Fld Z h10 b10 "java/util/ArrayList" "size" "I" (.int (0 : Int32)) := D10 (Or.inl (own_w hw 46 rfl)) (ty := .int) (by decide)
  obtain ⟨_, _, ⟨T11, L11, k11, n11⟩, -, X11, ⟨Lc11, hQ11, l11, y11, z11⟩, st11⟩ := X10.specialBack hx (y := own_m5) rfl hown (mvT hZ (own_w hw 3 rfl)) (mvT hZ (own_w hw 4 rfl)) (mvT hZ (own_w hw 5 rfl)) (by decide) (backOf (W := 1) (rm_ali l Z a0 hw [] b10 _ _ _ _ _ _ _ _ h10 n0 O10 hE F10_modCount F10_elementData F10_size A10 g_b10 ) hZ (own_w hw 5 rfl) (own_w hw 2 rfl) (by decide) (by decide)) (g := (mkF m 4 #[.val (.long p0), .second, .val (.long p1), .second, .val (.long p2), .second, .val (.int p3), .unset, .unset, .unset, .unset, .unset, .unset, .unset] [(.ref b10), (.ref b10)])) rfl (by rw [hml]; rfl) (Steps.refl _) (a := b10) (argsL := []) (rest := [(.ref b10)]) (lenOf pd___V rfl) rfl (by show 2 * 0 + _ ≤ _; exact Nat.le_of_eq rfl) (hb hby at_4) (fun _ _ => ⟨rfl, e10, (by decide : 1 + 0 ≤ _), (by decide : 3 + 0 ≤ _)⟩)
  dsimp only [Pt.U, Pt.locs, Pt.cells, Pt.slots] at X11 l11 y11 z11 st11 hQ11
  subst l11 y11 z11
  obtain ⟨rfl, N11q, O11, Kc11, Ex11, G11_0, G11_1, G11_2⟩ := hQ11
  have N11 := Fr.app N00 N11q
  have K11 := K10.trans Kc11 (allS (Or.inr s_b10) all0)
  obtain ⟨_, _, ⟨T12, L12, k12, n12⟩, -, X12, ⟨Lc12, hQ12, l12, y12, z12⟩, st12⟩ := Jvm.LawKit.callS X11 hx (y := own_m2) hown (mvT hZ (own_w hw 26 rfl)) (mvT hZ (own_w hw 27 rfl)) (mvT hZ (own_w hw 28 rfl)) (mvT hZ (own_w hw 29 rfl)) (by decide) (backOf (W := 1) (rm_lv l Z a0 hw [] p0 _ _ _ _ _ _ _ _ T11.heap n0 O11 hE  ) hZ (own_w hw 29 rfl) (own_w hw 28 rfl) (by decide) (by decide)) (g := (mkF m 12 #[.val (.long p0), .second, .val (.long p1), .second, .val (.long p2), .second, .val (.int p3), .val (.ref b10), .unset, .unset, .unset, .unset, .unset, .unset] [(.long p0), (.ref b10)])) rfl (by rw [hml]; rfl) (argsL := [(.long p0)]) (rest := [(.ref b10)]) (lenOf pd__J_Ljava_lang_Long_ rfl) rfl (by show 2 * 0 + _ ≤ _; exact Nat.le_of_eq rfl) (hb hby at_12) (fun _ _ => ⟨rfl, rfl, (by decide : 1 + 1 ≤ _), (by decide : 3 + 1 ≤ _)⟩)
  dsimp only [Pt.U, Pt.locs, Pt.cells, Pt.slots] at X12 l12 y12 z12 st12 hQ12
  subst l12 y12 z12
  obtain ⟨b12, rfl, N12q, O12, Kc12, F12_0, F12_1⟩ := hQ12
  have N12 := Fr.app N11 N12q
  have K12 := K11.trans Kc12 (fun x hx => nomatch hx)
  have lt_b12 := F12_0.lt
  have f13 := (Ex11.keep Kc12)
  have neL12 : ¬ (b12 = b10) := ne_exa F12_0 f13 (by decide)
  have f14 := (G11_0.keep Kc12 List.not_mem_nil)
  have f15 := (G11_1.keep Kc12 List.not_mem_nil)
  have f16 := (G11_2.keep Kc12 List.not_mem_nil)
  obtain ⟨cq17, kq17, q17a, q17b, q17c⟩ := isOf hZ rfl f13
  obtain ⟨_, _, ⟨T17, L17, k17, n17⟩, -, X17, ⟨Lc17, hQ17, l17, y17, z17⟩, st17⟩ := X12.interfaceBack hx (xi := own_m27) (y := own_m10) hown (mvT hZ (own_w hw 34 rfl)) (mvT hZ (own_w hw 35 rfl)) (mvT hZ (own_w hw 36 rfl)) (mvT hZ (own_w hw 37 rfl)) (mvT hZ (own_w hw 38 rfl)) (mvT hZ (own_w hw 39 rfl)) (mvT hZ (own_w hw 40 rfl)) (mvT hZ (own_w hw 41 rfl)) (by decide) (backOf (W := 0) (rm_ad0 l Z a0 hw [] b10 (0 : Int32) b12 _ _ _ _ _ _ _ _ T12.heap n0 O12 hE f13 f14 f15 f16 F12_0 g_b10 ) hZ (own_w hw 42 rfl) (own_w hw 2 rfl) (by decide) (by decide)) q17a q17b q17c (g := (mkF m 15 #[.val (.long p0), .second, .val (.long p1), .second, .val (.long p2), .second, .val (.int p3), .val (.ref b10), .unset, .unset, .unset, .unset, .unset, .unset] [(.ref b12), (.ref b10)])) rfl (by rw [hml]; rfl) (Steps.refl _) (argsL := [(.ref b12)]) (rest := []) (lenOf pd__Ljava_lang_Object__Z rfl) rfl (by show 2 * 0 + _ ≤ _; exact Nat.le_of_eq rfl) (hb hby at_15) (fun _ _ => ⟨rfl, rfl, (by decide : 2 + 1 ≤ _), (by decide : 4 + 10 ≤ _)⟩)
  dsimp only [Pt.U, Pt.locs, Pt.cells, Pt.slots] at X17 l17 y17 z17 st17 hQ17
  subst l17 y17 z17
  obtain ⟨b17, k17, rfl, N17q, O17, Kc17, g_b17, gs_b17, F17_0, F17_1, F17_2, F17_3, F17_4, F17_5⟩ := hQ17
  have N17 := Fr.app N12 N17q
  have K17 := K12.trans Kc17 (allS (Or.inr s_b10) all0)
  have s_b17 := Nat.le_trans K12.1 gs_b17
  have lt_b17 := F17_4.lt
  obtain ⟨_, _, ⟨T18, L18, k18, n18⟩, -, X18, ⟨Lc18, hQ18, l18, y18, z18⟩, st18⟩ := Jvm.LawKit.callS X17 hx (y := own_m2) hown (mvT hZ (own_w hw 26 rfl)) (mvT hZ (own_w hw 27 rfl)) (mvT hZ (own_w hw 28 rfl)) (mvT hZ (own_w hw 29 rfl)) (by decide) (backOf (W := 1) (rm_lv l Z a0 hw [] p1 _ _ _ _ _ _ _ _ T17.heap n0 O17 hE  ) hZ (own_w hw 29 rfl) (own_w hw 28 rfl) (by decide) (by decide)) (g := (mkF m 24 #[.val (.long p0), .second, .val (.long p1), .second, .val (.long p2), .second, .val (.int p3), .val (.ref b10), .unset, .unset, .unset, .unset, .unset, .unset] [(.long p1), (.ref b10)])) rfl (by rw [hml]; rfl) (argsL := [(.long p1)]) (rest := [(.ref b10)]) (lenOf pd__J_Ljava_lang_Long_ rfl) rfl (by show 2 * 0 + _ ≤ _; exact Nat.le_of_eq rfl) (hb hby at_24) (fun _ _ => ⟨rfl, rfl, (by decide : 3 + 1 ≤ _), (by decide : 14 + 1 ≤ _)⟩)
  dsimp only [Pt.U, Pt.locs, Pt.cells, Pt.slots] at X18 l18 y18 z18 st18 hQ18
  subst l18 y18 z18
  obtain ⟨b18, rfl, N18q, O18, Kc18, F18_0, F18_1⟩ := hQ18
  have N18 := Fr.app N17 N18q
  have K18 := K17.trans Kc18 (fun x hx => nomatch hx)
  have lt_b18 := F18_0.lt
  have f19 := (F17_0.keep Kc18)
  have neL18 : ¬ (b18 = b10) := ne_exa F18_0 f19 (by decide)
  have f20 := (F17_4.keep Kc18 List.not_mem_nil)
  have neD18 : ¬ (b18 = b17) := Exa.neArv F18_0 f20 (own_w hw 169 rfl)
  have ne21 : ¬ (b10 = b17) := (Nat.ne_of_lt (Nat.lt_of_lt_of_le (Nat.lt_of_lt_of_le (Nat.lt_of_lt_of_le lt_b10 Kc11.1) Kc12.1) gs_b17))
  have f22 := (F17_1.keep Kc18 List.not_mem_nil)
  have f23 := (F17_2.keep Kc18 List.not_mem_nil)
  have f24 := (F17_3.keep Kc18 List.not_mem_nil)
  have f25 := F17_5
  obtain ⟨cq26, kq26, q26a, q26b, q26c⟩ := isOf hZ rfl f19
  obtain ⟨_, _, ⟨T26, L26, k26, n26⟩, -, X26, ⟨Lc26, hQ26, l26, y26, z26⟩, st26⟩ := X18.interfaceBack hx (xi := own_m27) (y := own_m10) hown (mvT hZ (own_w hw 34 rfl)) (mvT hZ (own_w hw 35 rfl)) (mvT hZ (own_w hw 36 rfl)) (mvT hZ (own_w hw 37 rfl)) (mvT hZ (own_w hw 38 rfl)) (mvT hZ (own_w hw 39 rfl)) (mvT hZ (own_w hw 40 rfl)) (mvT hZ (own_w hw 41 rfl)) (by decide) (backOf (W := 0) (rm_ad1 l Z a0 hw [] b10 ((0 : Int32) + (1 : Int32)) b18 b17 k17 b12 _ _ _ _ _ _ _ _ T18.heap n0 O18 hE f19 f22 f23 f24 f20 f25 F18_0 g_b10 g_b17 ne21) hZ (own_w hw 42 rfl) (own_w hw 2 rfl) (by decide) (by decide)) q26a q26b q26c (g := (mkF m 27 #[.val (.long p0), .second, .val (.long p1), .second, .val (.long p2), .second, .val (.int p3), .val (.ref b10), .unset, .unset, .unset, .unset, .unset, .unset] [(.ref b18), (.ref b10)])) rfl (by rw [hml]; rfl) (Steps.refl _) (argsL := [(.ref b18)]) (rest := []) (lenOf pd__Ljava_lang_Object__Z rfl) rfl (by show 2 * 0 + _ ≤ _; exact Nat.le_of_eq rfl) (hb hby at_27) (fun _ _ => ⟨rfl, rfl, (by decide : 4 + 0 ≤ _), (by decide : 15 + 0 ≤ _)⟩)
  dsimp only [Pt.U, Pt.locs, Pt.cells, Pt.slots] at X26 l26 y26 z26 st26 hQ26
  subst l26 y26 z26
  obtain ⟨rfl, N26q, O26, Kc26, F26_0, F26_1, F26_2, F26_3, F26_4, F26_5⟩ := hQ26
  have N26 := Fr.app N18 N26q
  have K26 := K18.trans Kc26 (allS (Or.inr s_b10) (allS (Or.inr s_b17) all0))
  have k27 : ∀ t, own_At p e below m T26 37 #[.val (.long p0), .second, .val (.long p1), .second, .val (.long p2), .second, .val (.int p3), .val (.ref b10), .unset, .unset, .unset, .unset, .unset, .unset] [(.int (p3 &&& (1 : Int32)))] t → own_En p e below m s₁ #[(.long p0), (.long p1), (.long p2), (.int p3)] maxLocals t := by
    intro t k
    refine k00 t ?_
    refine st10 _ ?_
    show own_At p e below m T10 3 #[.val (.long p0), .second, .val (.long p1), .second, .val (.long p2), .second, .val (.int p3), .unset, .unset, .unset, .unset, .unset, .unset, .unset] [(.ref b10)] t
    refine XS.dup X10.here hx rfl (hb hby at_3) rfl rfl ?_
    show own_At p e below m T10 4 #[.val (.long p0), .second, .val (.long p1), .second, .val (.long p2), .second, .val (.int p3), .unset, .unset, .unset, .unset, .unset, .unset, .unset] [(.ref b10), (.ref b10)] t
    refine st11.trans ?_
    show own_At p e below m T11 7 #[.val (.long p0), .second, .val (.long p1), .second, .val (.long p2), .second, .val (.int p3), .unset, .unset, .unset, .unset, .unset, .unset, .unset] [(.ref b10)] t
    refine XS.astore X11.here hx rfl (hb hby at_7) rfl rfl (l' := #[.val (.long p0), .second, .val (.long p1), .second, .val (.long p2), .second, .val (.int p3), .val (.ref b10), .unset, .unset, .unset, .unset, .unset, .unset]) rfl ?_
    show own_At p e below m T11 9 #[.val (.long p0), .second, .val (.long p1), .second, .val (.long p2), .second, .val (.int p3), .val (.ref b10), .unset, .unset, .unset, .unset, .unset, .unset] [] t
    refine XS.aload X11.here hx rfl (hb hby at_9) rfl rfl ?_
    show own_At p e below m T11 11 #[.val (.long p0), .second, .val (.long p1), .second, .val (.long p2), .second, .val (.int p3), .val (.ref b10), .unset, .unset, .unset, .unset, .unset, .unset] [(.ref b10)] t
    refine XS.lloadN X11.here hx rfl (hb hby at_11) rfl ?_
    show own_At p e below m T11 12 #[.val (.long p0), .second, .val (.long p1), .second, .val (.long p2), .second, .val (.int p3), .val (.ref b10), .unset, .unset, .unset, .unset, .unset, .unset] [(.long p0), (.ref b10)] t
    refine st12 _ ?_
    show own_At p e below m T12 15 #[.val (.long p0), .second, .val (.long p1), .second, .val (.long p2), .second, .val (.int p3), .val (.ref b10), .unset, .unset, .unset, .unset, .unset, .unset] [(.ref b12), (.ref b10)] t
    refine st17.trans ?_
    show own_At p e below m T17 20 #[.val (.long p0), .second, .val (.long p1), .second, .val (.long p2), .second, .val (.int p3), .val (.ref b10), .unset, .unset, .unset, .unset, .unset, .unset] [(.int (1 : Int32))] t
    refine XS.pop X17.here hx rfl (hb hby at_20) rfl rfl ?_
    show own_At p e below m T17 21 #[.val (.long p0), .second, .val (.long p1), .second, .val (.long p2), .second, .val (.int p3), .val (.ref b10), .unset, .unset, .unset, .unset, .unset, .unset] [] t
    refine XS.aload X17.here hx rfl (hb hby at_21) rfl rfl ?_
    show own_At p e below m T17 23 #[.val (.long p0), .second, .val (.long p1), .second, .val (.long p2), .second, .val (.int p3), .val (.ref b10), .unset, .unset, .unset, .unset, .unset, .unset] [(.ref b10)] t
    refine XS.lloadN X17.here hx rfl (hb hby at_23) rfl ?_
    show own_At p e below m T17 24 #[.val (.long p0), .second, .val (.long p1), .second, .val (.long p2), .second, .val (.int p3), .val (.ref b10), .unset, .unset, .unset, .unset, .unset, .unset] [(.long p1), (.ref b10)] t
    refine st18 _ ?_
    show own_At p e below m T18 27 #[.val (.long p0), .second, .val (.long p1), .second, .val (.long p2), .second, .val (.int p3), .val (.ref b10), .unset, .unset, .unset, .unset, .unset, .unset] [(.ref b18), (.ref b10)] t
    refine st26.trans ?_
    show own_At p e below m T26 32 #[.val (.long p0), .second, .val (.long p1), .second, .val (.long p2), .second, .val (.int p3), .val (.ref b10), .unset, .unset, .unset, .unset, .unset, .unset] [(.int (1 : Int32))] t
    refine XS.pop X26.here hx rfl (hb hby at_32) rfl rfl ?_
    show own_At p e below m T26 33 #[.val (.long p0), .second, .val (.long p1), .second, .val (.long p2), .second, .val (.int p3), .val (.ref b10), .unset, .unset, .unset, .unset, .unset, .unset] [] t
    refine XS.iload X26.here hx rfl (hb hby at_33) rfl ?_
    show own_At p e below m T26 35 #[.val (.long p0), .second, .val (.long p1), .second, .val (.long p2), .second, .val (.int p3), .val (.ref b10), .unset, .unset, .unset, .unset, .unset, .unset] [(.int p3)] t
    refine XS.iconst X26.here hx rfl (hb hby at_35) ?_
    show own_At p e below m T26 36 #[.val (.long p0), .second, .val (.long p1), .second, .val (.long p2), .second, .val (.int p3), .val (.ref b10), .unset, .unset, .unset, .unset, .unset, .unset] [(.int (1 : Int32)), (.int p3)] t
    refine XS.iand X26.here hx rfl (hb hby at_36) rfl ?_
    show own_At p e below m T26 37 #[.val (.long p0), .second, .val (.long p1), .second, .val (.long p2), .second, .val (.int p3), .val (.ref b10), .unset, .unset, .unset, .unset, .unset, .unset] [(.int (p3 &&& (1 : Int32)))] t
    exact k
  by_cases hc28 : (p3 &&& (1 : Int32)) = (0 : Int32)
  · have f29 := (((F12_0.keep Kc17).keep Kc18).keep Kc26)
    have ne30 : ¬ (b12 = b17) := (Nat.ne_of_lt (Nat.lt_of_lt_of_le lt_b12 gs_b17))
    have f31 := (((F12_1.keep Kc17 (fun q => neL12 (List.mem_singleton.mp q))).keep Kc18 List.not_mem_nil).keep Kc26 (by simp only [List.mem_cons, List.not_mem_nil, or_false, not_or]; exact ⟨neL12, ne30⟩))
    have f32 := (F18_0.keep Kc26)
    have f33 := (F18_1.keep Kc26 (by simp only [List.mem_cons, List.not_mem_nil, or_false, not_or]; exact ⟨neL18, neD18⟩))
    obtain ⟨_, _, ⟨T34, L34, k34, n34⟩, -, X34, ⟨Lc34, hQ34, l34, y34, z34⟩, st34⟩ := Jvm.LawKit.callS X26 hx (y := own_m26) hown (mvT hZ (own_w hw 69 rfl)) (mvT hZ (own_w hw 70 rfl)) (mvT hZ (own_w hw 71 rfl)) (mvT hZ (own_w hw 72 rfl)) (by decide) (backOf (W := 0) (rm_ol2 l Z a0 hw [] b10 b17 k17 b12 b18 p0 p1 _ _ _ _ _ _ _ _ T26.heap n0 O26 hE F26_0 F26_2 F26_3 F26_4 f29 f31 f32 f33 ) hZ (own_w hw 72 rfl) (own_w hw 71 rfl) (by decide) (by decide)) (g := (mkF m 55 #[.val (.long p0), .second, .val (.long p1), .second, .val (.long p2), .second, .val (.int p3), .val (.ref b10), .unset, .unset, .unset, .unset, .unset, .unset] [(.ref b10)])) rfl (by rw [hml]; rfl) (argsL := [(.ref b10)]) (rest := []) (lenOf pd__Ljava_util_List__Lcom_example_plus1_plus1_Take_ rfl) rfl (by show 2 * 0 + _ ≤ _; exact Nat.le_of_eq rfl) (hb hby at_55) (fun _ _ => ⟨rfl, rfl, (by decide : 4 + 1 ≤ _), (by decide : 15 + 3 ≤ _)⟩)
    dsimp only [Pt.U, Pt.locs, Pt.cells, Pt.slots] at X34 l34 y34 z34 st34 hQ34
    subst l34 y34 z34
    obtain ⟨b34, rfl, N34q, O34, Kc34, g_b34, gs_b34, F34_0, F34_1, F34_2, F34_3⟩ := hQ34
    have N34 := Fr.app N26 N34q
    have K34 := K26.trans Kc34 (fun x hx => nomatch hx)
    have s_b34 := Nat.le_trans K26.1 gs_b34
    have lt_b34 := F34_0.lt
    obtain ⟨cq35, kq35, q35a, q35b, q35c⟩ := isOf hZ rfl F34_0
    obtain ⟨_, _, ⟨T35, L35, k35, n35⟩, -, X35, ⟨Lc35, hQ35, l35, y35, z35⟩, st35⟩ := X34.virtualBack hx (y := own_m19) (z := own_m19) hown (mvT hZ (own_w hw 123 rfl)) (mvT hZ (own_w hw 124 rfl)) (notFace_of_selects (args := #[]) (mvT hZ (own_w hw 126 rfl))) (mvT hZ (own_w hw 126 rfl)) (mvT hZ (own_w hw 125 rfl)) (by decide) (backOf (W := 0) (rm_holds l Z a0 hw [] b34 p0 _ _ _ _ _ _ _ _ T34.heap n0 O34 hE F34_1 ) hZ (own_w hw 127 rfl) (own_w hw 71 rfl) (by decide) (by decide)) q35a q35c (g := (mkF m 62 #[.val (.long p0), .second, .val (.long p1), .second, .val (.long p2), .second, .val (.int p3), .val (.ref b10), .val (.ref b34), .unset, .unset, .unset, .unset, .unset] [(.ref b34)])) rfl (by rw [hml]; rfl) (Steps.refl _) (argsL := []) (rest := []) (lenOf pd___J rfl) rfl (by show 2 * 0 + _ ≤ _; exact Nat.le_of_eq rfl) (hb hby at_62) (fun _ _ => ⟨rfl, rfl, (by decide : 5 + 0 ≤ _), (by decide : 18 + 0 ≤ _)⟩)
    dsimp only [Pt.U, Pt.locs, Pt.cells, Pt.slots] at X35 l35 y35 z35 st35 hQ35
    subst l35 y35 z35
    obtain ⟨rfl, N35q, hp35⟩ := hQ35
    have N35 := Fr.app N34 N35q
    have k36 : ∀ t, own_At p e below m T35 79 #[.val (.long p0), .second, .val (.long p1), .second, .val (.long p2), .second, .val (.int p3), .val (.ref b10), .val (.ref b34), .val (.int (1 : Int32)), .unset, .unset, .unset, .unset] [(.ref b34)] t → own_En p e below m s₁ #[(.long p0), (.long p1), (.long p2), (.int p3)] maxLocals t := by
      intro t k
      refine k27 t ?_
      refine XS.ifYes X26.here hx rfl (pc0 := 37) (pc' := 53) rfl (hb hby at_37) rfl ((if0 _ _).trans (teq hc28).1) (by decide) (by decide) ?_
      show own_At p e below m T26 53 #[.val (.long p0), .second, .val (.long p1), .second, .val (.long p2), .second, .val (.int p3), .val (.ref b10), .unset, .unset, .unset, .unset, .unset, .unset] [] t
      refine XS.aload X26.here hx rfl (hb hby at_53) rfl rfl ?_
      show own_At p e below m T26 55 #[.val (.long p0), .second, .val (.long p1), .second, .val (.long p2), .second, .val (.int p3), .val (.ref b10), .unset, .unset, .unset, .unset, .unset, .unset] [(.ref b10)] t
      refine st34 _ ?_
      show own_At p e below m T34 58 #[.val (.long p0), .second, .val (.long p1), .second, .val (.long p2), .second, .val (.int p3), .val (.ref b10), .unset, .unset, .unset, .unset, .unset, .unset] [(.ref b34)] t
      refine XS.astore X34.here hx rfl (hb hby at_58) rfl rfl (l' := #[.val (.long p0), .second, .val (.long p1), .second, .val (.long p2), .second, .val (.int p3), .val (.ref b10), .val (.ref b34), .unset, .unset, .unset, .unset, .unset]) rfl ?_
      show own_At p e below m T34 60 #[.val (.long p0), .second, .val (.long p1), .second, .val (.long p2), .second, .val (.int p3), .val (.ref b10), .val (.ref b34), .unset, .unset, .unset, .unset, .unset] [] t
      refine XS.aload X34.here hx rfl (hb hby at_60) rfl rfl ?_
      show own_At p e below m T34 62 #[.val (.long p0), .second, .val (.long p1), .second, .val (.long p2), .second, .val (.int p3), .val (.ref b10), .val (.ref b34), .unset, .unset, .unset, .unset, .unset] [(.ref b34)] t
      refine st35.trans ?_
      show own_At p e below m T35 65 #[.val (.long p0), .second, .val (.long p1), .second, .val (.long p2), .second, .val (.int p3), .val (.ref b10), .val (.ref b34), .unset, .unset, .unset, .unset, .unset] [(.long p0)] t
      refine XS.lloadN X35.here hx rfl (hb hby at_65) rfl ?_
      show own_At p e below m T35 66 #[.val (.long p0), .second, .val (.long p1), .second, .val (.long p2), .second, .val (.int p3), .val (.ref b10), .val (.ref b34), .unset, .unset, .unset, .unset, .unset] [(.long p0), (.long p0)] t
      refine XS.lcmp X35.here hx rfl (hb hby at_66) rfl ?_
      show own_At p e below m T35 67 #[.val (.long p0), .second, .val (.long p1), .second, .val (.long p2), .second, .val (.int p3), .val (.ref b10), .val (.ref b34), .unset, .unset, .unset, .unset, .unset] [(.int (lcmpW p0 p0))] t
      refine XS.ifNo X35.here hx rfl (hb hby at_67) rfl ((if0 _ _).trans (teq ((lw_eq _ _).mpr rfl)).2) ?_
      show own_At p e below m T35 70 #[.val (.long p0), .second, .val (.long p1), .second, .val (.long p2), .second, .val (.int p3), .val (.ref b10), .val (.ref b34), .unset, .unset, .unset, .unset, .unset] [] t
      refine XS.iconst X35.here hx rfl (hb hby at_70) ?_
      show own_At p e below m T35 71 #[.val (.long p0), .second, .val (.long p1), .second, .val (.long p2), .second, .val (.int p3), .val (.ref b10), .val (.ref b34), .unset, .unset, .unset, .unset, .unset] [(.int (1 : Int32))] t
      refine XS.goto X35.here hx rfl (pc0 := 71) (pc' := 75) rfl (hb hby at_71) (by decide) (by decide) ?_
      show own_At p e below m T35 75 #[.val (.long p0), .second, .val (.long p1), .second, .val (.long p2), .second, .val (.int p3), .val (.ref b10), .val (.ref b34), .unset, .unset, .unset, .unset, .unset] [(.int (1 : Int32))] t
      refine XS.istore X35.here hx rfl (hb hby at_75) rfl (l' := #[.val (.long p0), .second, .val (.long p1), .second, .val (.long p2), .second, .val (.int p3), .val (.ref b10), .val (.ref b34), .val (.int (1 : Int32)), .unset, .unset, .unset, .unset]) rfl ?_
      show own_At p e below m T35 77 #[.val (.long p0), .second, .val (.long p1), .second, .val (.long p2), .second, .val (.int p3), .val (.ref b10), .val (.ref b34), .val (.int (1 : Int32)), .unset, .unset, .unset, .unset] [] t
      refine XS.aload X35.here hx rfl (hb hby at_77) rfl rfl ?_
      show own_At p e below m T35 79 #[.val (.long p0), .second, .val (.long p1), .second, .val (.long p2), .second, .val (.int p3), .val (.ref b10), .val (.ref b34), .val (.int (1 : Int32)), .unset, .unset, .unset, .unset] [(.ref b34)] t
      exact k
    have J37 : ∀ (T37 : State) (locs37 : List Loc) (X37 : Stand p l e room_1 s m #[(.long p0), (.long p1), (.long p2), (.int p3)] below meth c T37 locs37 5 18) (e37 : T37.heap = T34.heap) (N37 : Fr n0 locs37) (k37 : ∀ t, own_At p e below m T37 103 #[.val (.long p0), .second, .val (.long p1), .second, .val (.long p2), .second, .val (.int p3), .val (.ref b10), .val (.ref b34), .val (.int (1 : Int32)), .val (.int (1 : Int32)), .unset, .unset, .unset] [] t → own_En p e below m s₁ #[(.long p0), (.long p1), (.long p2), (.int p3)] maxLocals t), False := by
      intro T37 locs37 X37 e37 N37 k37
      obtain ⟨cq38, kq38, q38a, q38b, q38c⟩ := isOf hZ e37 F34_0
      obtain ⟨_, _, ⟨T38, L38, k38, n38⟩, -, X38, ⟨Lc38, hQ38, l38, y38, z38⟩, st38⟩ := X37.virtualBack hx (y := own_m21) (z := own_m21) hown (mvT hZ (own_w hw 133 rfl)) (mvT hZ (own_w hw 134 rfl)) (notFace_of_selects (args := #[]) (mvT hZ (own_w hw 136 rfl))) (mvT hZ (own_w hw 136 rfl)) (mvT hZ (own_w hw 135 rfl)) (by decide) (backOf (W := 0) (rm_heldB l Z a0 hw [] b34 (own_held p0 a_TRUE a_FALSE) _ _ _ _ _ _ _ _ T34.heap n0 O34 hE F34_3 ) hZ (own_w hw 137 rfl) (own_w hw 71 rfl) (by decide) (by decide)) q38a q38c (g := (mkF m 105 #[.val (.long p0), .second, .val (.long p1), .second, .val (.long p2), .second, .val (.int p3), .val (.ref b10), .val (.ref b34), .val (.int (1 : Int32)), .val (.int (1 : Int32)), .unset, .unset, .unset] [(.ref b34)])) rfl (by rw [hml]; rfl) (Steps.refl _) (argsL := []) (rest := []) (lenOf pd___Ljava_lang_Boolean_ rfl) rfl (by show 2 * 0 + _ ≤ _; exact Nat.le_of_eq rfl) (hb hby at_105) (fun _ _ => ⟨rfl, e37, (by decide : 5 + 0 ≤ _), (by decide : 18 + 0 ≤ _)⟩)
      dsimp only [Pt.U, Pt.locs, Pt.cells, Pt.slots] at X38 l38 y38 z38 st38 hQ38
      subst l38 y38 z38
      obtain ⟨rfl, N38q, hp38⟩ := hQ38
      have N38 := Fr.app N37 N38q
      have k39 : ∀ t, own_At p e below m T38 110 #[.val (.long p0), .second, .val (.long p1), .second, .val (.long p2), .second, .val (.int p3), .val (.ref b10), .val (.ref b34), .val (.int (1 : Int32)), .val (.int (1 : Int32)), .val (.ref (own_held p0 a_TRUE a_FALSE)), .unset, .unset] [] t → own_En p e below m s₁ #[(.long p0), (.long p1), (.long p2), (.int p3)] maxLocals t := by
        intro t k
        refine k37 t ?_
        refine XS.aload X37.here hx rfl (hb hby at_103) rfl rfl ?_
        show own_At p e below m T37 105 #[.val (.long p0), .second, .val (.long p1), .second, .val (.long p2), .second, .val (.int p3), .val (.ref b10), .val (.ref b34), .val (.int (1 : Int32)), .val (.int (1 : Int32)), .unset, .unset, .unset] [(.ref b34)] t
        refine st38.trans ?_
        show own_At p e below m T38 108 #[.val (.long p0), .second, .val (.long p1), .second, .val (.long p2), .second, .val (.int p3), .val (.ref b10), .val (.ref b34), .val (.int (1 : Int32)), .val (.int (1 : Int32)), .unset, .unset, .unset] [(.ref (own_held p0 a_TRUE a_FALSE))] t
        refine XS.astore X38.here hx rfl (hb hby at_108) rfl rfl (l' := #[.val (.long p0), .second, .val (.long p1), .second, .val (.long p2), .second, .val (.int p3), .val (.ref b10), .val (.ref b34), .val (.int (1 : Int32)), .val (.int (1 : Int32)), .val (.ref (own_held p0 a_TRUE a_FALSE)), .unset, .unset]) rfl ?_
        show own_At p e below m T38 110 #[.val (.long p0), .second, .val (.long p1), .second, .val (.long p2), .second, .val (.int p3), .val (.ref b10), .val (.ref b34), .val (.int (1 : Int32)), .val (.int (1 : Int32)), .val (.ref (own_held p0 a_TRUE a_FALSE)), .unset, .unset] [] t
        exact k
      have J40 : ∀ (T40 : State) (locs40 : List Loc) (u40_11 : Value) (X40 : Stand p l e room_1 s m #[(.long p0), (.long p1), (.long p2), (.int p3)] below meth c T40 locs40 5 18) (e40 : T40.heap = T34.heap) (N40 : Fr n0 locs40) (k40 : ∀ t, own_At p e below m T40 141 #[.val (.long p0), .second, .val (.long p1), .second, .val (.long p2), .second, .val (.int p3), .val (.ref b10), .val (.ref b34), .val (.int (1 : Int32)), .val (.int (1 : Int32)), .val u40_11, .val (.int (1 : Int32)), .unset] [] t → own_En p e below m s₁ #[(.long p0), (.long p1), (.long p2), (.int p3)] maxLocals t), False := by
        intro T40 locs40 u40_11 X40 e40 N40 k40
        have J41 : ∀ (T41 : State) (locs41 : List Loc) (X41 : Stand p l e room_1 s m #[(.long p0), (.long p1), (.long p2), (.int p3)] below meth c T41 locs41 5 18) (e41 : T41.heap = T34.heap) (N41 : Fr n0 locs41) (k41 : ∀ t, own_At p e below m T41 169 #[.val (.long p0), .second, .val (.long p1), .second, .val (.long p2), .second, .val (.int p3), .val (.ref b10), .val (.ref b34), .val (.int (1 : Int32)), .val (.int (1 : Int32)), .val u40_11, .val (.int (1 : Int32)), .val (.int (1 : Int32))] [] t → own_En p e below m s₁ #[(.long p0), (.long p1), (.long p2), (.int p3)] maxLocals t), False := by
          intro T41 locs41 X41 e41 N41 k41
          have k42 : ∀ t, own_At p e below m T41 194 #[.val (.long p0), .second, .val (.long p1), .second, .val (.long p2), .second, .val (.int p3), .val (.ref b10), .val (.ref b34), .val (.int (1 : Int32)), .val (.int (1 : Int32)), .val u40_11, .val (.int (1 : Int32)), .val (.int (1 : Int32))] [(.int (1 : Int32))] t → own_En p e below m s₁ #[(.long p0), (.long p1), (.long p2), (.int p3)] maxLocals t := by
            intro t k
            refine k41 t ?_
            refine XS.iload X41.here hx rfl (hb hby at_169) rfl ?_
            show own_At p e below m T41 171 #[.val (.long p0), .second, .val (.long p1), .second, .val (.long p2), .second, .val (.int p3), .val (.ref b10), .val (.ref b34), .val (.int (1 : Int32)), .val (.int (1 : Int32)), .val u40_11, .val (.int (1 : Int32)), .val (.int (1 : Int32))] [(.int (1 : Int32))] t
            refine XS.ifNo X41.here hx rfl (hb hby at_171) rfl ((if0 _ _).trans (feq (by decide : ¬ ((1 : Int32) = (0 : Int32)))).1) ?_
            show own_At p e below m T41 174 #[.val (.long p0), .second, .val (.long p1), .second, .val (.long p2), .second, .val (.int p3), .val (.ref b10), .val (.ref b34), .val (.int (1 : Int32)), .val (.int (1 : Int32)), .val u40_11, .val (.int (1 : Int32)), .val (.int (1 : Int32))] [] t
            refine XS.iload X41.here hx rfl (hb hby at_174) rfl ?_
            show own_At p e below m T41 176 #[.val (.long p0), .second, .val (.long p1), .second, .val (.long p2), .second, .val (.int p3), .val (.ref b10), .val (.ref b34), .val (.int (1 : Int32)), .val (.int (1 : Int32)), .val u40_11, .val (.int (1 : Int32)), .val (.int (1 : Int32))] [(.int (1 : Int32))] t
            refine XS.ifNo X41.here hx rfl (hb hby at_176) rfl ((if0 _ _).trans (feq (by decide : ¬ ((1 : Int32) = (0 : Int32)))).1) ?_
            show own_At p e below m T41 179 #[.val (.long p0), .second, .val (.long p1), .second, .val (.long p2), .second, .val (.int p3), .val (.ref b10), .val (.ref b34), .val (.int (1 : Int32)), .val (.int (1 : Int32)), .val u40_11, .val (.int (1 : Int32)), .val (.int (1 : Int32))] [] t
            refine XS.iload X41.here hx rfl (hb hby at_179) rfl ?_
            show own_At p e below m T41 181 #[.val (.long p0), .second, .val (.long p1), .second, .val (.long p2), .second, .val (.int p3), .val (.ref b10), .val (.ref b34), .val (.int (1 : Int32)), .val (.int (1 : Int32)), .val u40_11, .val (.int (1 : Int32)), .val (.int (1 : Int32))] [(.int (1 : Int32))] t
            refine XS.ifNo X41.here hx rfl (hb hby at_181) rfl ((if0 _ _).trans (feq (by decide : ¬ ((1 : Int32) = (0 : Int32)))).1) ?_
            show own_At p e below m T41 184 #[.val (.long p0), .second, .val (.long p1), .second, .val (.long p2), .second, .val (.int p3), .val (.ref b10), .val (.ref b34), .val (.int (1 : Int32)), .val (.int (1 : Int32)), .val u40_11, .val (.int (1 : Int32)), .val (.int (1 : Int32))] [] t
            refine XS.iload X41.here hx rfl (hb hby at_184) rfl ?_
            show own_At p e below m T41 186 #[.val (.long p0), .second, .val (.long p1), .second, .val (.long p2), .second, .val (.int p3), .val (.ref b10), .val (.ref b34), .val (.int (1 : Int32)), .val (.int (1 : Int32)), .val u40_11, .val (.int (1 : Int32)), .val (.int (1 : Int32))] [(.int (1 : Int32))] t
            refine XS.ifNo X41.here hx rfl (hb hby at_186) rfl ((if0 _ _).trans (feq (by decide : ¬ ((1 : Int32) = (0 : Int32)))).1) ?_
            show own_At p e below m T41 189 #[.val (.long p0), .second, .val (.long p1), .second, .val (.long p2), .second, .val (.int p3), .val (.ref b10), .val (.ref b34), .val (.int (1 : Int32)), .val (.int (1 : Int32)), .val u40_11, .val (.int (1 : Int32)), .val (.int (1 : Int32))] [] t
            refine XS.iconst X41.here hx rfl (hb hby at_189) ?_
            show own_At p e below m T41 190 #[.val (.long p0), .second, .val (.long p1), .second, .val (.long p2), .second, .val (.int p3), .val (.ref b10), .val (.ref b34), .val (.int (1 : Int32)), .val (.int (1 : Int32)), .val u40_11, .val (.int (1 : Int32)), .val (.int (1 : Int32))] [(.int (1 : Int32))] t
            refine XS.goto X41.here hx rfl (pc0 := 190) (pc' := 194) rfl (hb hby at_190) (by decide) (by decide) ?_
            show own_At p e below m T41 194 #[.val (.long p0), .second, .val (.long p1), .second, .val (.long p2), .second, .val (.int p3), .val (.ref b10), .val (.ref b34), .val (.int (1 : Int32)), .val (.int (1 : Int32)), .val u40_11, .val (.int (1 : Int32)), .val (.int (1 : Int32))] [(.int (1 : Int32))] t
            exact k
          obtain ⟨fs, hr, hrun, hended, hW, hsame⟩ := X41.leave (v := some (.int (1 : Int32))) (fun h => by rw [Bd.returns] at h; cases h)
          refine hNG ⟨_, _, k42 _ ?_, hrun, hended, _, _, rfl, ?_, ⟨_, rfl⟩, hW, hsame.mono (by decide) (by decide)⟩
          · exact retN X41 hx (t := .boolean) Bd.returns (by simp) (hb hby at_194) hr
          · show Q_law Z p0 p1 p2 p3 a_EMPTY_ELEMENTDATA a_DEFAULTCAPACITY_EMPTY_ELEMENTDATA a_cache a_TRUE a_MILLISECONDS a_MILLISECONDS_name a_FALSE cl_cache h0 n0 _ T41.heap _
            rw [e41]
            exact ⟨rfl, N41⟩
        have k43 : ∀ t, own_At p e below m T40 146 #[.val (.long p0), .second, .val (.long p1), .second, .val (.long p2), .second, .val (.int p3), .val (.ref b10), .val (.ref b34), .val (.int (1 : Int32)), .val (.int (1 : Int32)), .val u40_11, .val (.int (1 : Int32)), .unset] [(.int (lcmpW p1 (9223372036854775807 : Int64)))] t → own_En p e below m s₁ #[(.long p0), (.long p1), (.long p2), (.int p3)] maxLocals t := by
          intro t k
          refine k40 t ?_
          refine XS.lloadN X40.here hx rfl (hb hby at_141) rfl ?_
          show own_At p e below m T40 142 #[.val (.long p0), .second, .val (.long p1), .second, .val (.long p2), .second, .val (.int p3), .val (.ref b10), .val (.ref b34), .val (.int (1 : Int32)), .val (.int (1 : Int32)), .val u40_11, .val (.int (1 : Int32)), .unset] [(.long p1)] t
          refine X40.ldc2J hx hown (mvT hZ (own_w hw 145 rfl)) rfl (hb hby at_142) ?_
          show own_At p e below m T40 145 #[.val (.long p0), .second, .val (.long p1), .second, .val (.long p2), .second, .val (.int p3), .val (.ref b10), .val (.ref b34), .val (.int (1 : Int32)), .val (.int (1 : Int32)), .val u40_11, .val (.int (1 : Int32)), .unset] [(.long (9223372036854775807 : Int64)), (.long p1)] t
          refine XS.lcmp X40.here hx rfl (hb hby at_145) rfl ?_
          show own_At p e below m T40 146 #[.val (.long p0), .second, .val (.long p1), .second, .val (.long p2), .second, .val (.int p3), .val (.ref b10), .val (.ref b34), .val (.int (1 : Int32)), .val (.int (1 : Int32)), .val u40_11, .val (.int (1 : Int32)), .unset] [(.int (lcmpW p1 (9223372036854775807 : Int64)))] t
          exact k
        by_cases hc44 : (lcmpW p1 (9223372036854775807 : Int64)) = (0 : Int32)
        · have k45 : ∀ t, own_At p e below m T40 169 #[.val (.long p0), .second, .val (.long p1), .second, .val (.long p2), .second, .val (.int p3), .val (.ref b10), .val (.ref b34), .val (.int (1 : Int32)), .val (.int (1 : Int32)), .val u40_11, .val (.int (1 : Int32)), .val (.int (1 : Int32))] [] t → own_En p e below m s₁ #[(.long p0), (.long p1), (.long p2), (.int p3)] maxLocals t := by
            intro t k
            refine k43 t ?_
            refine XS.ifYes X40.here hx rfl (pc0 := 146) (pc' := 162) rfl (hb hby at_146) rfl ((if0 _ _).trans (teq hc44).1) (by decide) (by decide) ?_
            show own_At p e below m T40 162 #[.val (.long p0), .second, .val (.long p1), .second, .val (.long p2), .second, .val (.int p3), .val (.ref b10), .val (.ref b34), .val (.int (1 : Int32)), .val (.int (1 : Int32)), .val u40_11, .val (.int (1 : Int32)), .unset] [] t
            refine XS.iconst X40.here hx rfl (hb hby at_162) ?_
            show own_At p e below m T40 163 #[.val (.long p0), .second, .val (.long p1), .second, .val (.long p2), .second, .val (.int p3), .val (.ref b10), .val (.ref b34), .val (.int (1 : Int32)), .val (.int (1 : Int32)), .val u40_11, .val (.int (1 : Int32)), .unset] [(.int (1 : Int32))] t
            refine XS.goto X40.here hx rfl (pc0 := 163) (pc' := 167) rfl (hb hby at_163) (by decide) (by decide) ?_
            show own_At p e below m T40 167 #[.val (.long p0), .second, .val (.long p1), .second, .val (.long p2), .second, .val (.int p3), .val (.ref b10), .val (.ref b34), .val (.int (1 : Int32)), .val (.int (1 : Int32)), .val u40_11, .val (.int (1 : Int32)), .unset] [(.int (1 : Int32))] t
            refine XS.istore X40.here hx rfl (hb hby at_167) rfl (l' := #[.val (.long p0), .second, .val (.long p1), .second, .val (.long p2), .second, .val (.int p3), .val (.ref b10), .val (.ref b34), .val (.int (1 : Int32)), .val (.int (1 : Int32)), .val u40_11, .val (.int (1 : Int32)), .val (.int (1 : Int32))]) rfl ?_
            show own_At p e below m T40 169 #[.val (.long p0), .second, .val (.long p1), .second, .val (.long p2), .second, .val (.int p3), .val (.ref b10), .val (.ref b34), .val (.int (1 : Int32)), .val (.int (1 : Int32)), .val u40_11, .val (.int (1 : Int32)), .val (.int (1 : Int32))] [] t
            exact k
          exact J41 _ _  X40 e40 N40 k45
        · have k46 : ∀ t, own_At p e below m T40 151 #[.val (.long p0), .second, .val (.long p1), .second, .val (.long p2), .second, .val (.int p3), .val (.ref b10), .val (.ref b34), .val (.int (1 : Int32)), .val (.int (1 : Int32)), .val u40_11, .val (.int (1 : Int32)), .unset] [(.ref b34)] t → own_En p e below m s₁ #[(.long p0), (.long p1), (.long p2), (.int p3)] maxLocals t := by
            intro t k
            refine k43 t ?_
            refine XS.ifNo X40.here hx rfl (hb hby at_146) rfl ((if0 _ _).trans (feq hc44).1) ?_
            show own_At p e below m T40 149 #[.val (.long p0), .second, .val (.long p1), .second, .val (.long p2), .second, .val (.int p3), .val (.ref b10), .val (.ref b34), .val (.int (1 : Int32)), .val (.int (1 : Int32)), .val u40_11, .val (.int (1 : Int32)), .unset] [] t
            refine XS.aload X40.here hx rfl (hb hby at_149) rfl rfl ?_
            show own_At p e below m T40 151 #[.val (.long p0), .second, .val (.long p1), .second, .val (.long p2), .second, .val (.int p3), .val (.ref b10), .val (.ref b34), .val (.int (1 : Int32)), .val (.int (1 : Int32)), .val u40_11, .val (.int (1 : Int32)), .unset] [(.ref b34)] t
            exact k
          by_cases hc47 : (lcmpW p1 (0 : Int64)) < (0 : Int32)
          · obtain ⟨cq48, kq48, q48a, q48b, q48c⟩ := isOf hZ e40 F34_0
            obtain ⟨_, _, ⟨T48, L48, k48, n48⟩, -, X48, ⟨Lc48, hQ48, l48, y48, z48⟩, st48⟩ := X40.virtualBack hx (y := own_m23) (z := own_m23) hown (mvT hZ (own_w hw 146 rfl)) (mvT hZ (own_w hw 147 rfl)) (notFace_of_selects (args := #[]) (mvT hZ (own_w hw 149 rfl))) (mvT hZ (own_w hw 149 rfl)) (mvT hZ (own_w hw 148 rfl)) (by decide) (backOf (W := 0) (rm_rn_neg l Z a0 hw [] b34 p1 _ _ _ _ _ _ _ _ T34.heap n0 O34 hE F34_2 hc47) hZ (own_w hw 150 rfl) (own_w hw 71 rfl) (by decide) (by decide)) q48a q48c (g := (mkF m 151 #[.val (.long p0), .second, .val (.long p1), .second, .val (.long p2), .second, .val (.int p3), .val (.ref b10), .val (.ref b34), .val (.int (1 : Int32)), .val (.int (1 : Int32)), .val u40_11, .val (.int (1 : Int32)), .unset] [(.ref b34)])) rfl (by rw [hml]; rfl) (Steps.refl _) (argsL := []) (rest := []) (lenOf pd___J rfl) rfl (by show 2 * 0 + _ ≤ _; exact Nat.le_of_eq rfl) (hb hby at_151) (fun _ _ => ⟨rfl, e40, (by decide : 5 + 0 ≤ _), (by decide : 18 + 0 ≤ _)⟩)
            dsimp only [Pt.U, Pt.locs, Pt.cells, Pt.slots] at X48 l48 y48 z48 st48 hQ48
            subst l48 y48 z48
            obtain ⟨rfl, N48q, hp48⟩ := hQ48
            have N48 := Fr.app N40 N48q
            obtain ⟨_, _, ⟨T49, L49, k49, n49⟩, -, X49, ⟨Lc49, hQ49, l49, y49, z49⟩, st49⟩ := Jvm.LawKit.callS X48 hx (y := own_m24) hown (mvT hZ (own_w hw 162 rfl)) (mvT hZ (own_w hw 163 rfl)) (mvT hZ (own_w hw 164 rfl)) (mvT hZ (own_w hw 165 rfl)) (by decide) (backOf (W := 2) (rm_xp_neg l Z a0 hw [] p1 _ _ _ _ _ _ _ _ T34.heap n0 O34 hE hc47) hZ (own_w hw 165 rfl) (own_w hw 164 rfl) (by decide) (by decide)) (g := (mkF m 155 #[.val (.long p0), .second, .val (.long p1), .second, .val (.long p2), .second, .val (.int p3), .val (.ref b10), .val (.ref b34), .val (.int (1 : Int32)), .val (.int (1 : Int32)), .val u40_11, .val (.int (1 : Int32)), .unset] [(.long p1), (.long (9223372036854775807 : Int64))])) rfl (by rw [hml]; rfl) (argsL := [(.long p1)]) (rest := [(.long (9223372036854775807 : Int64))]) (lenOf pd__J_J rfl) rfl (by show 2 * 0 + _ ≤ _; exact Nat.le_of_eq rfl) (hb hby at_155) (fun _ _ => ⟨rfl, hp48, (by decide : 5 + 0 ≤ _), (by decide : 18 + 0 ≤ _)⟩)
            dsimp only [Pt.U, Pt.locs, Pt.cells, Pt.slots] at X49 l49 y49 z49 st49 hQ49
            subst l49 y49 z49
            obtain ⟨rfl, N49q, hp49⟩ := hQ49
            have N49 := Fr.app N48 N49q
            have k50 : ∀ t, own_At p e below m T49 169 #[.val (.long p0), .second, .val (.long p1), .second, .val (.long p2), .second, .val (.int p3), .val (.ref b10), .val (.ref b34), .val (.int (1 : Int32)), .val (.int (1 : Int32)), .val u40_11, .val (.int (1 : Int32)), .val (.int (1 : Int32))] [] t → own_En p e below m s₁ #[(.long p0), (.long p1), (.long p2), (.int p3)] maxLocals t := by
              intro t k
              refine k46 t ?_
              refine st48.trans ?_
              show own_At p e below m T48 154 #[.val (.long p0), .second, .val (.long p1), .second, .val (.long p2), .second, .val (.int p3), .val (.ref b10), .val (.ref b34), .val (.int (1 : Int32)), .val (.int (1 : Int32)), .val u40_11, .val (.int (1 : Int32)), .unset] [(.long (9223372036854775807 : Int64))] t
              refine XS.lloadN X48.here hx rfl (hb hby at_154) rfl ?_
              show own_At p e below m T48 155 #[.val (.long p0), .second, .val (.long p1), .second, .val (.long p2), .second, .val (.int p3), .val (.ref b10), .val (.ref b34), .val (.int (1 : Int32)), .val (.int (1 : Int32)), .val u40_11, .val (.int (1 : Int32)), .unset] [(.long p1), (.long (9223372036854775807 : Int64))] t
              refine st49 _ ?_
              show own_At p e below m T49 158 #[.val (.long p0), .second, .val (.long p1), .second, .val (.long p2), .second, .val (.int p3), .val (.ref b10), .val (.ref b34), .val (.int (1 : Int32)), .val (.int (1 : Int32)), .val u40_11, .val (.int (1 : Int32)), .unset] [(.long (9223372036854775807 : Int64)), (.long (9223372036854775807 : Int64))] t
              refine XS.lcmp X49.here hx rfl (hb hby at_158) rfl ?_
              show own_At p e below m T49 159 #[.val (.long p0), .second, .val (.long p1), .second, .val (.long p2), .second, .val (.int p3), .val (.ref b10), .val (.ref b34), .val (.int (1 : Int32)), .val (.int (1 : Int32)), .val u40_11, .val (.int (1 : Int32)), .unset] [(.int (lcmpW (9223372036854775807 : Int64) (9223372036854775807 : Int64)))] t
              rw [show (lcmpW (9223372036854775807 : Int64) (9223372036854775807 : Int64)) = (0 : Int32) from by decide]
              show own_At p e below m T49 159 #[.val (.long p0), .second, .val (.long p1), .second, .val (.long p2), .second, .val (.int p3), .val (.ref b10), .val (.ref b34), .val (.int (1 : Int32)), .val (.int (1 : Int32)), .val u40_11, .val (.int (1 : Int32)), .unset] [(.int (0 : Int32))] t
              refine XS.ifNo X49.here hx rfl (hb hby at_159) rfl ((if0 _ _).trans (teq (by decide : (0 : Int32) = (0 : Int32))).2) ?_
              show own_At p e below m T49 162 #[.val (.long p0), .second, .val (.long p1), .second, .val (.long p2), .second, .val (.int p3), .val (.ref b10), .val (.ref b34), .val (.int (1 : Int32)), .val (.int (1 : Int32)), .val u40_11, .val (.int (1 : Int32)), .unset] [] t
              refine XS.iconst X49.here hx rfl (hb hby at_162) ?_
              show own_At p e below m T49 163 #[.val (.long p0), .second, .val (.long p1), .second, .val (.long p2), .second, .val (.int p3), .val (.ref b10), .val (.ref b34), .val (.int (1 : Int32)), .val (.int (1 : Int32)), .val u40_11, .val (.int (1 : Int32)), .unset] [(.int (1 : Int32))] t
              refine XS.goto X49.here hx rfl (pc0 := 163) (pc' := 167) rfl (hb hby at_163) (by decide) (by decide) ?_
              show own_At p e below m T49 167 #[.val (.long p0), .second, .val (.long p1), .second, .val (.long p2), .second, .val (.int p3), .val (.ref b10), .val (.ref b34), .val (.int (1 : Int32)), .val (.int (1 : Int32)), .val u40_11, .val (.int (1 : Int32)), .unset] [(.int (1 : Int32))] t
              refine XS.istore X49.here hx rfl (hb hby at_167) rfl (l' := #[.val (.long p0), .second, .val (.long p1), .second, .val (.long p2), .second, .val (.int p3), .val (.ref b10), .val (.ref b34), .val (.int (1 : Int32)), .val (.int (1 : Int32)), .val u40_11, .val (.int (1 : Int32)), .val (.int (1 : Int32))]) rfl ?_
              show own_At p e below m T49 169 #[.val (.long p0), .second, .val (.long p1), .second, .val (.long p2), .second, .val (.int p3), .val (.ref b10), .val (.ref b34), .val (.int (1 : Int32)), .val (.int (1 : Int32)), .val u40_11, .val (.int (1 : Int32)), .val (.int (1 : Int32))] [] t
              exact k
            exact J41 _ _  X49 hp49 N49 k50
          · by_cases hc51 : (0 : Int32) < (lcmpW (p1 + (1 : Int64)) (9223372036854 : Int64))
            · obtain ⟨cq52, kq52, q52a, q52b, q52c⟩ := isOf hZ e40 F34_0
              obtain ⟨_, _, ⟨T52, L52, k52, n52⟩, -, X52, ⟨Lc52, hQ52, l52, y52, z52⟩, st52⟩ := X40.virtualBack hx (y := own_m23) (z := own_m23) hown (mvT hZ (own_w hw 146 rfl)) (mvT hZ (own_w hw 147 rfl)) (notFace_of_selects (args := #[]) (mvT hZ (own_w hw 149 rfl))) (mvT hZ (own_w hw 149 rfl)) (mvT hZ (own_w hw 148 rfl)) (by decide) (backOf (W := 0) (rm_rn_t l Z a0 hw [] b34 p1 _ _ _ _ _ _ _ _ T34.heap n0 O34 hE F34_2 hc44 hc47 hc51) hZ (own_w hw 150 rfl) (own_w hw 71 rfl) (by decide) (by decide)) q52a q52c (g := (mkF m 151 #[.val (.long p0), .second, .val (.long p1), .second, .val (.long p2), .second, .val (.int p3), .val (.ref b10), .val (.ref b34), .val (.int (1 : Int32)), .val (.int (1 : Int32)), .val u40_11, .val (.int (1 : Int32)), .unset] [(.ref b34)])) rfl (by rw [hml]; rfl) (Steps.refl _) (argsL := []) (rest := []) (lenOf pd___J rfl) rfl (by show 2 * 0 + _ ≤ _; exact Nat.le_of_eq rfl) (hb hby at_151) (fun _ _ => ⟨rfl, e40, (by decide : 5 + 0 ≤ _), (by decide : 18 + 0 ≤ _)⟩)
              dsimp only [Pt.U, Pt.locs, Pt.cells, Pt.slots] at X52 l52 y52 z52 st52 hQ52
              subst l52 y52 z52
              obtain ⟨rfl, N52q, hp52⟩ := hQ52
              have N52 := Fr.app N40 N52q
              obtain ⟨_, _, ⟨T53, L53, k53, n53⟩, -, X53, ⟨Lc53, hQ53, l53, y53, z53⟩, st53⟩ := Jvm.LawKit.callS X52 hx (y := own_m24) hown (mvT hZ (own_w hw 162 rfl)) (mvT hZ (own_w hw 163 rfl)) (mvT hZ (own_w hw 164 rfl)) (mvT hZ (own_w hw 165 rfl)) (by decide) (backOf (W := 2) (rm_xp_t l Z a0 hw [] p1 _ _ _ _ _ _ _ _ T34.heap n0 O34 hE hc47 hc51) hZ (own_w hw 165 rfl) (own_w hw 164 rfl) (by decide) (by decide)) (g := (mkF m 155 #[.val (.long p0), .second, .val (.long p1), .second, .val (.long p2), .second, .val (.int p3), .val (.ref b10), .val (.ref b34), .val (.int (1 : Int32)), .val (.int (1 : Int32)), .val u40_11, .val (.int (1 : Int32)), .unset] [(.long p1), (.long (9223372036854775807 : Int64))])) rfl (by rw [hml]; rfl) (argsL := [(.long p1)]) (rest := [(.long (9223372036854775807 : Int64))]) (lenOf pd__J_J rfl) rfl (by show 2 * 0 + _ ≤ _; exact Nat.le_of_eq rfl) (hb hby at_155) (fun _ _ => ⟨rfl, hp52, (by decide : 5 + 0 ≤ _), (by decide : 18 + 0 ≤ _)⟩)
              dsimp only [Pt.U, Pt.locs, Pt.cells, Pt.slots] at X53 l53 y53 z53 st53 hQ53
              subst l53 y53 z53
              obtain ⟨rfl, N53q, hp53⟩ := hQ53
              have N53 := Fr.app N52 N53q
              have k54 : ∀ t, own_At p e below m T53 169 #[.val (.long p0), .second, .val (.long p1), .second, .val (.long p2), .second, .val (.int p3), .val (.ref b10), .val (.ref b34), .val (.int (1 : Int32)), .val (.int (1 : Int32)), .val u40_11, .val (.int (1 : Int32)), .val (.int (1 : Int32))] [] t → own_En p e below m s₁ #[(.long p0), (.long p1), (.long p2), (.int p3)] maxLocals t := by
                intro t k
                refine k46 t ?_
                refine st52.trans ?_
                show own_At p e below m T52 154 #[.val (.long p0), .second, .val (.long p1), .second, .val (.long p2), .second, .val (.int p3), .val (.ref b10), .val (.ref b34), .val (.int (1 : Int32)), .val (.int (1 : Int32)), .val u40_11, .val (.int (1 : Int32)), .unset] [(.long (9223372036854775807 : Int64))] t
                refine XS.lloadN X52.here hx rfl (hb hby at_154) rfl ?_
                show own_At p e below m T52 155 #[.val (.long p0), .second, .val (.long p1), .second, .val (.long p2), .second, .val (.int p3), .val (.ref b10), .val (.ref b34), .val (.int (1 : Int32)), .val (.int (1 : Int32)), .val u40_11, .val (.int (1 : Int32)), .unset] [(.long p1), (.long (9223372036854775807 : Int64))] t
                refine st53 _ ?_
                show own_At p e below m T53 158 #[.val (.long p0), .second, .val (.long p1), .second, .val (.long p2), .second, .val (.int p3), .val (.ref b10), .val (.ref b34), .val (.int (1 : Int32)), .val (.int (1 : Int32)), .val u40_11, .val (.int (1 : Int32)), .unset] [(.long (9223372036854775807 : Int64)), (.long (9223372036854775807 : Int64))] t
                refine XS.lcmp X53.here hx rfl (hb hby at_158) rfl ?_
                show own_At p e below m T53 159 #[.val (.long p0), .second, .val (.long p1), .second, .val (.long p2), .second, .val (.int p3), .val (.ref b10), .val (.ref b34), .val (.int (1 : Int32)), .val (.int (1 : Int32)), .val u40_11, .val (.int (1 : Int32)), .unset] [(.int (lcmpW (9223372036854775807 : Int64) (9223372036854775807 : Int64)))] t
                rw [show (lcmpW (9223372036854775807 : Int64) (9223372036854775807 : Int64)) = (0 : Int32) from by decide]
                show own_At p e below m T53 159 #[.val (.long p0), .second, .val (.long p1), .second, .val (.long p2), .second, .val (.int p3), .val (.ref b10), .val (.ref b34), .val (.int (1 : Int32)), .val (.int (1 : Int32)), .val u40_11, .val (.int (1 : Int32)), .unset] [(.int (0 : Int32))] t
                refine XS.ifNo X53.here hx rfl (hb hby at_159) rfl ((if0 _ _).trans (teq (by decide : (0 : Int32) = (0 : Int32))).2) ?_
                show own_At p e below m T53 162 #[.val (.long p0), .second, .val (.long p1), .second, .val (.long p2), .second, .val (.int p3), .val (.ref b10), .val (.ref b34), .val (.int (1 : Int32)), .val (.int (1 : Int32)), .val u40_11, .val (.int (1 : Int32)), .unset] [] t
                refine XS.iconst X53.here hx rfl (hb hby at_162) ?_
                show own_At p e below m T53 163 #[.val (.long p0), .second, .val (.long p1), .second, .val (.long p2), .second, .val (.int p3), .val (.ref b10), .val (.ref b34), .val (.int (1 : Int32)), .val (.int (1 : Int32)), .val u40_11, .val (.int (1 : Int32)), .unset] [(.int (1 : Int32))] t
                refine XS.goto X53.here hx rfl (pc0 := 163) (pc' := 167) rfl (hb hby at_163) (by decide) (by decide) ?_
                show own_At p e below m T53 167 #[.val (.long p0), .second, .val (.long p1), .second, .val (.long p2), .second, .val (.int p3), .val (.ref b10), .val (.ref b34), .val (.int (1 : Int32)), .val (.int (1 : Int32)), .val u40_11, .val (.int (1 : Int32)), .unset] [(.int (1 : Int32))] t
                refine XS.istore X53.here hx rfl (hb hby at_167) rfl (l' := #[.val (.long p0), .second, .val (.long p1), .second, .val (.long p2), .second, .val (.int p3), .val (.ref b10), .val (.ref b34), .val (.int (1 : Int32)), .val (.int (1 : Int32)), .val u40_11, .val (.int (1 : Int32)), .val (.int (1 : Int32))]) rfl ?_
                show own_At p e below m T53 169 #[.val (.long p0), .second, .val (.long p1), .second, .val (.long p2), .second, .val (.int p3), .val (.ref b10), .val (.ref b34), .val (.int (1 : Int32)), .val (.int (1 : Int32)), .val u40_11, .val (.int (1 : Int32)), .val (.int (1 : Int32))] [] t
                exact k
              exact J41 _ _  X53 hp53 N53 k54
            · obtain ⟨cq55, kq55, q55a, q55b, q55c⟩ := isOf hZ e40 F34_0
              obtain ⟨_, _, ⟨T55, L55, k55, n55⟩, -, X55, ⟨Lc55, hQ55, l55, y55, z55⟩, st55⟩ := X40.virtualBack hx (y := own_m23) (z := own_m23) hown (mvT hZ (own_w hw 146 rfl)) (mvT hZ (own_w hw 147 rfl)) (notFace_of_selects (args := #[]) (mvT hZ (own_w hw 149 rfl))) (mvT hZ (own_w hw 149 rfl)) (mvT hZ (own_w hw 148 rfl)) (by decide) (backOf (W := 0) (rm_rn_f l Z a0 hw [] b34 p1 _ _ _ _ _ _ _ _ T34.heap n0 O34 hE F34_2 hc44 hc47 hc51) hZ (own_w hw 150 rfl) (own_w hw 71 rfl) (by decide) (by decide)) q55a q55c (g := (mkF m 151 #[.val (.long p0), .second, .val (.long p1), .second, .val (.long p2), .second, .val (.int p3), .val (.ref b10), .val (.ref b34), .val (.int (1 : Int32)), .val (.int (1 : Int32)), .val u40_11, .val (.int (1 : Int32)), .unset] [(.ref b34)])) rfl (by rw [hml]; rfl) (Steps.refl _) (argsL := []) (rest := []) (lenOf pd___J rfl) rfl (by show 2 * 0 + _ ≤ _; exact Nat.le_of_eq rfl) (hb hby at_151) (fun _ _ => ⟨rfl, e40, (by decide : 5 + 0 ≤ _), (by decide : 18 + 0 ≤ _)⟩)
              dsimp only [Pt.U, Pt.locs, Pt.cells, Pt.slots] at X55 l55 y55 z55 st55 hQ55
              subst l55 y55 z55
              obtain ⟨rfl, N55q, hp55⟩ := hQ55
              have N55 := Fr.app N40 N55q
              obtain ⟨_, _, ⟨T56, L56, k56, n56⟩, -, X56, ⟨Lc56, hQ56, l56, y56, z56⟩, st56⟩ := Jvm.LawKit.callS X55 hx (y := own_m24) hown (mvT hZ (own_w hw 162 rfl)) (mvT hZ (own_w hw 163 rfl)) (mvT hZ (own_w hw 164 rfl)) (mvT hZ (own_w hw 165 rfl)) (by decide) (backOf (W := 2) (rm_xp_f l Z a0 hw [] p1 _ _ _ _ _ _ _ _ T34.heap n0 O34 hE hc47 hc51) hZ (own_w hw 165 rfl) (own_w hw 164 rfl) (by decide) (by decide)) (g := (mkF m 155 #[.val (.long p0), .second, .val (.long p1), .second, .val (.long p2), .second, .val (.int p3), .val (.ref b10), .val (.ref b34), .val (.int (1 : Int32)), .val (.int (1 : Int32)), .val u40_11, .val (.int (1 : Int32)), .unset] [(.long p1), (.long ((p1 + (1 : Int64)) * (1000000 : Int64)))])) rfl (by rw [hml]; rfl) (argsL := [(.long p1)]) (rest := [(.long ((p1 + (1 : Int64)) * (1000000 : Int64)))]) (lenOf pd__J_J rfl) rfl (by show 2 * 0 + _ ≤ _; exact Nat.le_of_eq rfl) (hb hby at_155) (fun _ _ => ⟨rfl, hp55, (by decide : 5 + 0 ≤ _), (by decide : 18 + 0 ≤ _)⟩)
              dsimp only [Pt.U, Pt.locs, Pt.cells, Pt.slots] at X56 l56 y56 z56 st56 hQ56
              subst l56 y56 z56
              obtain ⟨rfl, N56q, hp56⟩ := hQ56
              have N56 := Fr.app N55 N56q
              have k57 : ∀ t, own_At p e below m T56 169 #[.val (.long p0), .second, .val (.long p1), .second, .val (.long p2), .second, .val (.int p3), .val (.ref b10), .val (.ref b34), .val (.int (1 : Int32)), .val (.int (1 : Int32)), .val u40_11, .val (.int (1 : Int32)), .val (.int (1 : Int32))] [] t → own_En p e below m s₁ #[(.long p0), (.long p1), (.long p2), (.int p3)] maxLocals t := by
                intro t k
                refine k46 t ?_
                refine st55.trans ?_
                show own_At p e below m T55 154 #[.val (.long p0), .second, .val (.long p1), .second, .val (.long p2), .second, .val (.int p3), .val (.ref b10), .val (.ref b34), .val (.int (1 : Int32)), .val (.int (1 : Int32)), .val u40_11, .val (.int (1 : Int32)), .unset] [(.long ((p1 + (1 : Int64)) * (1000000 : Int64)))] t
                refine XS.lloadN X55.here hx rfl (hb hby at_154) rfl ?_
                show own_At p e below m T55 155 #[.val (.long p0), .second, .val (.long p1), .second, .val (.long p2), .second, .val (.int p3), .val (.ref b10), .val (.ref b34), .val (.int (1 : Int32)), .val (.int (1 : Int32)), .val u40_11, .val (.int (1 : Int32)), .unset] [(.long p1), (.long ((p1 + (1 : Int64)) * (1000000 : Int64)))] t
                refine st56 _ ?_
                show own_At p e below m T56 158 #[.val (.long p0), .second, .val (.long p1), .second, .val (.long p2), .second, .val (.int p3), .val (.ref b10), .val (.ref b34), .val (.int (1 : Int32)), .val (.int (1 : Int32)), .val u40_11, .val (.int (1 : Int32)), .unset] [(.long ((p1 + (1 : Int64)) * (1000000 : Int64))), (.long ((p1 + (1 : Int64)) * (1000000 : Int64)))] t
                refine XS.lcmp X56.here hx rfl (hb hby at_158) rfl ?_
                show own_At p e below m T56 159 #[.val (.long p0), .second, .val (.long p1), .second, .val (.long p2), .second, .val (.int p3), .val (.ref b10), .val (.ref b34), .val (.int (1 : Int32)), .val (.int (1 : Int32)), .val u40_11, .val (.int (1 : Int32)), .unset] [(.int (lcmpW ((p1 + (1 : Int64)) * (1000000 : Int64)) ((p1 + (1 : Int64)) * (1000000 : Int64))))] t
                refine XS.ifNo X56.here hx rfl (hb hby at_159) rfl ((if0 _ _).trans (teq ((lw_eq _ _).mpr rfl)).2) ?_
                show own_At p e below m T56 162 #[.val (.long p0), .second, .val (.long p1), .second, .val (.long p2), .second, .val (.int p3), .val (.ref b10), .val (.ref b34), .val (.int (1 : Int32)), .val (.int (1 : Int32)), .val u40_11, .val (.int (1 : Int32)), .unset] [] t
                refine XS.iconst X56.here hx rfl (hb hby at_162) ?_
                show own_At p e below m T56 163 #[.val (.long p0), .second, .val (.long p1), .second, .val (.long p2), .second, .val (.int p3), .val (.ref b10), .val (.ref b34), .val (.int (1 : Int32)), .val (.int (1 : Int32)), .val u40_11, .val (.int (1 : Int32)), .unset] [(.int (1 : Int32))] t
                refine XS.goto X56.here hx rfl (pc0 := 163) (pc' := 167) rfl (hb hby at_163) (by decide) (by decide) ?_
                show own_At p e below m T56 167 #[.val (.long p0), .second, .val (.long p1), .second, .val (.long p2), .second, .val (.int p3), .val (.ref b10), .val (.ref b34), .val (.int (1 : Int32)), .val (.int (1 : Int32)), .val u40_11, .val (.int (1 : Int32)), .unset] [(.int (1 : Int32))] t
                refine XS.istore X56.here hx rfl (hb hby at_167) rfl (l' := #[.val (.long p0), .second, .val (.long p1), .second, .val (.long p2), .second, .val (.int p3), .val (.ref b10), .val (.ref b34), .val (.int (1 : Int32)), .val (.int (1 : Int32)), .val u40_11, .val (.int (1 : Int32)), .val (.int (1 : Int32))]) rfl ?_
                show own_At p e below m T56 169 #[.val (.long p0), .second, .val (.long p1), .second, .val (.long p2), .second, .val (.int p3), .val (.ref b10), .val (.ref b34), .val (.int (1 : Int32)), .val (.int (1 : Int32)), .val u40_11, .val (.int (1 : Int32)), .val (.int (1 : Int32))] [] t
                exact k
              exact J41 _ _  X56 hp56 N56 k57
      by_cases hc58 : (0 : Int32) < (lcmpW p0 (1 : Int64))
      · have eh : own_held p0 a_TRUE a_FALSE = a_TRUE := if_pos hc58
        have k59 : ∀ t, own_At p e below m T38 110 #[.val (.long p0), .second, .val (.long p1), .second, .val (.long p2), .second, .val (.int p3), .val (.ref b10), .val (.ref b34), .val (.int (1 : Int32)), .val (.int (1 : Int32)), .val (.ref a_TRUE), .unset, .unset] [] t → own_En p e below m s₁ #[(.long p0), (.long p1), (.long p2), (.int p3)] maxLocals t := by
          intro t k
          refine k39 t ?_
          rw [eh]
          exact k
        obtain ⟨cq60, kq60, q60a, q60b, q60c⟩ := isOf hZ hp38 (E_TRUE.ext O34.2)
        obtain ⟨_, _, ⟨T60, L60, k60, n60⟩, -, X60, ⟨Lc60, hQ60, l60, y60, z60⟩, st60⟩ := X38.virtualBack hx (y := own_m28) (z := own_m28) hown (mvT hZ (own_w hw 138 rfl)) (mvT hZ (own_w hw 139 rfl)) (notFace_of_selects (args := #[]) (mvT hZ (own_w hw 141 rfl))) (mvT hZ (own_w hw 141 rfl)) (mvT hZ (own_w hw 140 rfl)) (by decide) (backOf (W := 0) (rm_f14 l Z a0 hw []  _ _ _ _ _ _ _ _ T34.heap n0 O34 hE) hZ (own_w hw 142 rfl) (own_w hw 110 rfl) (by decide) (by decide)) q60a q60c (g := (mkF m 117 #[.val (.long p0), .second, .val (.long p1), .second, .val (.long p2), .second, .val (.int p3), .val (.ref b10), .val (.ref b34), .val (.int (1 : Int32)), .val (.int (1 : Int32)), .val (.ref a_TRUE), .unset, .unset] [(.ref a_TRUE)])) rfl (by rw [hml]; rfl) (Steps.refl _) (argsL := []) (rest := []) (lenOf pd___Z rfl) rfl (by show 2 * 0 + _ ≤ _; exact Nat.le_of_eq rfl) (hb hby at_117) (fun _ _ => ⟨rfl, hp38, (by decide : 5 + 0 ≤ _), (by decide : 18 + 0 ≤ _)⟩)
        dsimp only [Pt.U, Pt.locs, Pt.cells, Pt.slots] at X60 l60 y60 z60 st60 hQ60
        subst l60 y60 z60
        obtain ⟨rfl, N60q, hp60⟩ := hQ60
        have N60 := Fr.app N38 N60q
        have k61 : ∀ t, own_At p e below m T60 141 #[.val (.long p0), .second, .val (.long p1), .second, .val (.long p2), .second, .val (.int p3), .val (.ref b10), .val (.ref b34), .val (.int (1 : Int32)), .val (.int (1 : Int32)), .val (.ref a_TRUE), .val (.int (1 : Int32)), .unset] [] t → own_En p e below m s₁ #[(.long p0), (.long p1), (.long p2), (.int p3)] maxLocals t := by
          intro t k
          refine k59 t ?_
          refine XS.aload X38.here hx rfl (hb hby at_110) rfl rfl ?_
          show own_At p e below m T38 112 #[.val (.long p0), .second, .val (.long p1), .second, .val (.long p2), .second, .val (.int p3), .val (.ref b10), .val (.ref b34), .val (.int (1 : Int32)), .val (.int (1 : Int32)), .val (.ref a_TRUE), .unset, .unset] [(.ref a_TRUE)] t
          refine XS.ifnullNo X38.here hx rfl (hb hby at_112) rfl ?_
          show own_At p e below m T38 115 #[.val (.long p0), .second, .val (.long p1), .second, .val (.long p2), .second, .val (.int p3), .val (.ref b10), .val (.ref b34), .val (.int (1 : Int32)), .val (.int (1 : Int32)), .val (.ref a_TRUE), .unset, .unset] [] t
          refine XS.aload X38.here hx rfl (hb hby at_115) rfl rfl ?_
          show own_At p e below m T38 117 #[.val (.long p0), .second, .val (.long p1), .second, .val (.long p2), .second, .val (.int p3), .val (.ref b10), .val (.ref b34), .val (.int (1 : Int32)), .val (.int (1 : Int32)), .val (.ref a_TRUE), .unset, .unset] [(.ref a_TRUE)] t
          refine st60.trans ?_
          show own_At p e below m T60 120 #[.val (.long p0), .second, .val (.long p1), .second, .val (.long p2), .second, .val (.int p3), .val (.ref b10), .val (.ref b34), .val (.int (1 : Int32)), .val (.int (1 : Int32)), .val (.ref a_TRUE), .unset, .unset] [(.int (1 : Int32))] t
          refine XS.lloadN X60.here hx rfl (hb hby at_120) rfl ?_
          show own_At p e below m T60 121 #[.val (.long p0), .second, .val (.long p1), .second, .val (.long p2), .second, .val (.int p3), .val (.ref b10), .val (.ref b34), .val (.int (1 : Int32)), .val (.int (1 : Int32)), .val (.ref a_TRUE), .unset, .unset] [(.long p0), (.int (1 : Int32))] t
          refine XS.lconst X60.here hx rfl (hb hby at_121) ?_
          show own_At p e below m T60 122 #[.val (.long p0), .second, .val (.long p1), .second, .val (.long p2), .second, .val (.int p3), .val (.ref b10), .val (.ref b34), .val (.int (1 : Int32)), .val (.int (1 : Int32)), .val (.ref a_TRUE), .unset, .unset] [(.long (1 : Int64)), (.long p0), (.int (1 : Int32))] t
          refine XS.lcmp X60.here hx rfl (hb hby at_122) rfl ?_
          show own_At p e below m T60 123 #[.val (.long p0), .second, .val (.long p1), .second, .val (.long p2), .second, .val (.int p3), .val (.ref b10), .val (.ref b34), .val (.int (1 : Int32)), .val (.int (1 : Int32)), .val (.ref a_TRUE), .unset, .unset] [(.int (lcmpW p0 (1 : Int64))), (.int (1 : Int32))] t
          refine XS.ifNo X60.here hx rfl (hb hby at_123) rfl ((if0 _ _).trans (tlt hc58).2.2.2) ?_
          show own_At p e below m T60 126 #[.val (.long p0), .second, .val (.long p1), .second, .val (.long p2), .second, .val (.int p3), .val (.ref b10), .val (.ref b34), .val (.int (1 : Int32)), .val (.int (1 : Int32)), .val (.ref a_TRUE), .unset, .unset] [(.int (1 : Int32))] t
          refine XS.iconst X60.here hx rfl (hb hby at_126) ?_
          show own_At p e below m T60 127 #[.val (.long p0), .second, .val (.long p1), .second, .val (.long p2), .second, .val (.int p3), .val (.ref b10), .val (.ref b34), .val (.int (1 : Int32)), .val (.int (1 : Int32)), .val (.ref a_TRUE), .unset, .unset] [(.int (1 : Int32)), (.int (1 : Int32))] t
          refine XS.goto X60.here hx rfl (pc0 := 127) (pc' := 131) rfl (hb hby at_127) (by decide) (by decide) ?_
          show own_At p e below m T60 131 #[.val (.long p0), .second, .val (.long p1), .second, .val (.long p2), .second, .val (.int p3), .val (.ref b10), .val (.ref b34), .val (.int (1 : Int32)), .val (.int (1 : Int32)), .val (.ref a_TRUE), .unset, .unset] [(.int (1 : Int32)), (.int (1 : Int32))] t
          refine XS.icmpNo X60.here hx rfl (hb hby at_131) rfl (teq (by decide : (1 : Int32) = (1 : Int32))).2 ?_
          show own_At p e below m T60 134 #[.val (.long p0), .second, .val (.long p1), .second, .val (.long p2), .second, .val (.int p3), .val (.ref b10), .val (.ref b34), .val (.int (1 : Int32)), .val (.int (1 : Int32)), .val (.ref a_TRUE), .unset, .unset] [] t
          refine XS.iconst X60.here hx rfl (hb hby at_134) ?_
          show own_At p e below m T60 135 #[.val (.long p0), .second, .val (.long p1), .second, .val (.long p2), .second, .val (.int p3), .val (.ref b10), .val (.ref b34), .val (.int (1 : Int32)), .val (.int (1 : Int32)), .val (.ref a_TRUE), .unset, .unset] [(.int (1 : Int32))] t
          refine XS.goto X60.here hx rfl (pc0 := 135) (pc' := 139) rfl (hb hby at_135) (by decide) (by decide) ?_
          show own_At p e below m T60 139 #[.val (.long p0), .second, .val (.long p1), .second, .val (.long p2), .second, .val (.int p3), .val (.ref b10), .val (.ref b34), .val (.int (1 : Int32)), .val (.int (1 : Int32)), .val (.ref a_TRUE), .unset, .unset] [(.int (1 : Int32))] t
          refine XS.istore X60.here hx rfl (hb hby at_139) rfl (l' := #[.val (.long p0), .second, .val (.long p1), .second, .val (.long p2), .second, .val (.int p3), .val (.ref b10), .val (.ref b34), .val (.int (1 : Int32)), .val (.int (1 : Int32)), .val (.ref a_TRUE), .val (.int (1 : Int32)), .unset]) rfl ?_
          show own_At p e below m T60 141 #[.val (.long p0), .second, .val (.long p1), .second, .val (.long p2), .second, .val (.int p3), .val (.ref b10), .val (.ref b34), .val (.int (1 : Int32)), .val (.int (1 : Int32)), .val (.ref a_TRUE), .val (.int (1 : Int32)), .unset] [] t
          exact k
        exact J40 _ _ ((.ref a_TRUE)) X60 hp60 N60 k61
      · have eh : own_held p0 a_TRUE a_FALSE = a_FALSE := if_neg hc58
        have k62 : ∀ t, own_At p e below m T38 110 #[.val (.long p0), .second, .val (.long p1), .second, .val (.long p2), .second, .val (.int p3), .val (.ref b10), .val (.ref b34), .val (.int (1 : Int32)), .val (.int (1 : Int32)), .val (.ref a_FALSE), .unset, .unset] [] t → own_En p e below m s₁ #[(.long p0), (.long p1), (.long p2), (.int p3)] maxLocals t := by
          intro t k
          refine k39 t ?_
          rw [eh]
          exact k
        obtain ⟨cq63, kq63, q63a, q63b, q63c⟩ := isOf hZ hp38 (E_FALSE.ext O34.2)
        obtain ⟨_, _, ⟨T63, L63, k63, n63⟩, -, X63, ⟨Lc63, hQ63, l63, y63, z63⟩, st63⟩ := X38.virtualBack hx (y := own_m28) (z := own_m28) hown (mvT hZ (own_w hw 138 rfl)) (mvT hZ (own_w hw 139 rfl)) (notFace_of_selects (args := #[]) (mvT hZ (own_w hw 141 rfl))) (mvT hZ (own_w hw 141 rfl)) (mvT hZ (own_w hw 140 rfl)) (by decide) (backOf (W := 0) (rm_f15 l Z a0 hw []  _ _ _ _ _ _ _ _ T34.heap n0 O34 hE) hZ (own_w hw 142 rfl) (own_w hw 110 rfl) (by decide) (by decide)) q63a q63c (g := (mkF m 117 #[.val (.long p0), .second, .val (.long p1), .second, .val (.long p2), .second, .val (.int p3), .val (.ref b10), .val (.ref b34), .val (.int (1 : Int32)), .val (.int (1 : Int32)), .val (.ref a_FALSE), .unset, .unset] [(.ref a_FALSE)])) rfl (by rw [hml]; rfl) (Steps.refl _) (argsL := []) (rest := []) (lenOf pd___Z rfl) rfl (by show 2 * 0 + _ ≤ _; exact Nat.le_of_eq rfl) (hb hby at_117) (fun _ _ => ⟨rfl, hp38, (by decide : 5 + 0 ≤ _), (by decide : 18 + 0 ≤ _)⟩)
        dsimp only [Pt.U, Pt.locs, Pt.cells, Pt.slots] at X63 l63 y63 z63 st63 hQ63
        subst l63 y63 z63
        obtain ⟨rfl, N63q, hp63⟩ := hQ63
        have N63 := Fr.app N38 N63q
        have k64 : ∀ t, own_At p e below m T63 141 #[.val (.long p0), .second, .val (.long p1), .second, .val (.long p2), .second, .val (.int p3), .val (.ref b10), .val (.ref b34), .val (.int (1 : Int32)), .val (.int (1 : Int32)), .val (.ref a_FALSE), .val (.int (1 : Int32)), .unset] [] t → own_En p e below m s₁ #[(.long p0), (.long p1), (.long p2), (.int p3)] maxLocals t := by
          intro t k
          refine k62 t ?_
          refine XS.aload X38.here hx rfl (hb hby at_110) rfl rfl ?_
          show own_At p e below m T38 112 #[.val (.long p0), .second, .val (.long p1), .second, .val (.long p2), .second, .val (.int p3), .val (.ref b10), .val (.ref b34), .val (.int (1 : Int32)), .val (.int (1 : Int32)), .val (.ref a_FALSE), .unset, .unset] [(.ref a_FALSE)] t
          refine XS.ifnullNo X38.here hx rfl (hb hby at_112) rfl ?_
          show own_At p e below m T38 115 #[.val (.long p0), .second, .val (.long p1), .second, .val (.long p2), .second, .val (.int p3), .val (.ref b10), .val (.ref b34), .val (.int (1 : Int32)), .val (.int (1 : Int32)), .val (.ref a_FALSE), .unset, .unset] [] t
          refine XS.aload X38.here hx rfl (hb hby at_115) rfl rfl ?_
          show own_At p e below m T38 117 #[.val (.long p0), .second, .val (.long p1), .second, .val (.long p2), .second, .val (.int p3), .val (.ref b10), .val (.ref b34), .val (.int (1 : Int32)), .val (.int (1 : Int32)), .val (.ref a_FALSE), .unset, .unset] [(.ref a_FALSE)] t
          refine st63.trans ?_
          show own_At p e below m T63 120 #[.val (.long p0), .second, .val (.long p1), .second, .val (.long p2), .second, .val (.int p3), .val (.ref b10), .val (.ref b34), .val (.int (1 : Int32)), .val (.int (1 : Int32)), .val (.ref a_FALSE), .unset, .unset] [(.int (0 : Int32))] t
          refine XS.lloadN X63.here hx rfl (hb hby at_120) rfl ?_
          show own_At p e below m T63 121 #[.val (.long p0), .second, .val (.long p1), .second, .val (.long p2), .second, .val (.int p3), .val (.ref b10), .val (.ref b34), .val (.int (1 : Int32)), .val (.int (1 : Int32)), .val (.ref a_FALSE), .unset, .unset] [(.long p0), (.int (0 : Int32))] t
          refine XS.lconst X63.here hx rfl (hb hby at_121) ?_
          show own_At p e below m T63 122 #[.val (.long p0), .second, .val (.long p1), .second, .val (.long p2), .second, .val (.int p3), .val (.ref b10), .val (.ref b34), .val (.int (1 : Int32)), .val (.int (1 : Int32)), .val (.ref a_FALSE), .unset, .unset] [(.long (1 : Int64)), (.long p0), (.int (0 : Int32))] t
          refine XS.lcmp X63.here hx rfl (hb hby at_122) rfl ?_
          show own_At p e below m T63 123 #[.val (.long p0), .second, .val (.long p1), .second, .val (.long p2), .second, .val (.int p3), .val (.ref b10), .val (.ref b34), .val (.int (1 : Int32)), .val (.int (1 : Int32)), .val (.ref a_FALSE), .unset, .unset] [(.int (lcmpW p0 (1 : Int64))), (.int (0 : Int32))] t
          refine XS.ifYes X63.here hx rfl (pc0 := 123) (pc' := 130) rfl (hb hby at_123) rfl ((if0 _ _).trans (flt hc58).2.2.2) (by decide) (by decide) ?_
          show own_At p e below m T63 130 #[.val (.long p0), .second, .val (.long p1), .second, .val (.long p2), .second, .val (.int p3), .val (.ref b10), .val (.ref b34), .val (.int (1 : Int32)), .val (.int (1 : Int32)), .val (.ref a_FALSE), .unset, .unset] [(.int (0 : Int32))] t
          refine XS.iconst X63.here hx rfl (hb hby at_130) ?_
          show own_At p e below m T63 131 #[.val (.long p0), .second, .val (.long p1), .second, .val (.long p2), .second, .val (.int p3), .val (.ref b10), .val (.ref b34), .val (.int (1 : Int32)), .val (.int (1 : Int32)), .val (.ref a_FALSE), .unset, .unset] [(.int (0 : Int32)), (.int (0 : Int32))] t
          refine XS.icmpNo X63.here hx rfl (hb hby at_131) rfl (teq (by decide : (0 : Int32) = (0 : Int32))).2 ?_
          show own_At p e below m T63 134 #[.val (.long p0), .second, .val (.long p1), .second, .val (.long p2), .second, .val (.int p3), .val (.ref b10), .val (.ref b34), .val (.int (1 : Int32)), .val (.int (1 : Int32)), .val (.ref a_FALSE), .unset, .unset] [] t
          refine XS.iconst X63.here hx rfl (hb hby at_134) ?_
          show own_At p e below m T63 135 #[.val (.long p0), .second, .val (.long p1), .second, .val (.long p2), .second, .val (.int p3), .val (.ref b10), .val (.ref b34), .val (.int (1 : Int32)), .val (.int (1 : Int32)), .val (.ref a_FALSE), .unset, .unset] [(.int (1 : Int32))] t
          refine XS.goto X63.here hx rfl (pc0 := 135) (pc' := 139) rfl (hb hby at_135) (by decide) (by decide) ?_
          show own_At p e below m T63 139 #[.val (.long p0), .second, .val (.long p1), .second, .val (.long p2), .second, .val (.int p3), .val (.ref b10), .val (.ref b34), .val (.int (1 : Int32)), .val (.int (1 : Int32)), .val (.ref a_FALSE), .unset, .unset] [(.int (1 : Int32))] t
          refine XS.istore X63.here hx rfl (hb hby at_139) rfl (l' := #[.val (.long p0), .second, .val (.long p1), .second, .val (.long p2), .second, .val (.int p3), .val (.ref b10), .val (.ref b34), .val (.int (1 : Int32)), .val (.int (1 : Int32)), .val (.ref a_FALSE), .val (.int (1 : Int32)), .unset]) rfl ?_
          show own_At p e below m T63 141 #[.val (.long p0), .second, .val (.long p1), .second, .val (.long p2), .second, .val (.int p3), .val (.ref b10), .val (.ref b34), .val (.int (1 : Int32)), .val (.int (1 : Int32)), .val (.ref a_FALSE), .val (.int (1 : Int32)), .unset] [] t
          exact k
        exact J40 _ _ ((.ref a_FALSE)) X63 hp63 N63 k64
    by_cases hc65 : (0 : Int32) < (lcmpW p0 (0 : Int64))
    · obtain ⟨cq66, kq66, q66a, q66b, q66c⟩ := isOf hZ hp35 F34_0
      obtain ⟨_, _, ⟨T66, L66, k66, n66⟩, -, X66, ⟨Lc66, hQ66, l66, y66, z66⟩, st66⟩ := X35.virtualBack hx (y := own_m20) (z := own_m20) hown (mvT hZ (own_w hw 128 rfl)) (mvT hZ (own_w hw 129 rfl)) (notFace_of_selects (args := #[]) (mvT hZ (own_w hw 131 rfl))) (mvT hZ (own_w hw 131 rfl)) (mvT hZ (own_w hw 130 rfl)) (by decide) (backOf (W := 0) (rm_taken_t l Z a0 hw [] b34 p0 _ _ _ _ _ _ _ _ T34.heap n0 O34 hE F34_1 hc65) hZ (own_w hw 132 rfl) (own_w hw 71 rfl) (by decide) (by decide)) q66a q66c (g := (mkF m 79 #[.val (.long p0), .second, .val (.long p1), .second, .val (.long p2), .second, .val (.int p3), .val (.ref b10), .val (.ref b34), .val (.int (1 : Int32)), .unset, .unset, .unset, .unset] [(.ref b34)])) rfl (by rw [hml]; rfl) (Steps.refl _) (argsL := []) (rest := []) (lenOf pd___Z rfl) rfl (by show 2 * 0 + _ ≤ _; exact Nat.le_of_eq rfl) (hb hby at_79) (fun _ _ => ⟨rfl, hp35, (by decide : 5 + 0 ≤ _), (by decide : 18 + 0 ≤ _)⟩)
      dsimp only [Pt.U, Pt.locs, Pt.cells, Pt.slots] at X66 l66 y66 z66 st66 hQ66
      subst l66 y66 z66
      obtain ⟨rfl, N66q, hp66⟩ := hQ66
      have N66 := Fr.app N35 N66q
      have k67 : ∀ t, own_At p e below m T66 103 #[.val (.long p0), .second, .val (.long p1), .second, .val (.long p2), .second, .val (.int p3), .val (.ref b10), .val (.ref b34), .val (.int (1 : Int32)), .val (.int (1 : Int32)), .unset, .unset, .unset] [] t → own_En p e below m s₁ #[(.long p0), (.long p1), (.long p2), (.int p3)] maxLocals t := by
        intro t k
        refine k36 t ?_
        refine st66.trans ?_
        show own_At p e below m T66 82 #[.val (.long p0), .second, .val (.long p1), .second, .val (.long p2), .second, .val (.int p3), .val (.ref b10), .val (.ref b34), .val (.int (1 : Int32)), .unset, .unset, .unset, .unset] [(.int (1 : Int32))] t
        refine XS.lloadN X66.here hx rfl (hb hby at_82) rfl ?_
        show own_At p e below m T66 83 #[.val (.long p0), .second, .val (.long p1), .second, .val (.long p2), .second, .val (.int p3), .val (.ref b10), .val (.ref b34), .val (.int (1 : Int32)), .unset, .unset, .unset, .unset] [(.long p0), (.int (1 : Int32))] t
        refine XS.lconst X66.here hx rfl (hb hby at_83) ?_
        show own_At p e below m T66 84 #[.val (.long p0), .second, .val (.long p1), .second, .val (.long p2), .second, .val (.int p3), .val (.ref b10), .val (.ref b34), .val (.int (1 : Int32)), .unset, .unset, .unset, .unset] [(.long (0 : Int64)), (.long p0), (.int (1 : Int32))] t
        refine XS.lcmp X66.here hx rfl (hb hby at_84) rfl ?_
        show own_At p e below m T66 85 #[.val (.long p0), .second, .val (.long p1), .second, .val (.long p2), .second, .val (.int p3), .val (.ref b10), .val (.ref b34), .val (.int (1 : Int32)), .unset, .unset, .unset, .unset] [(.int (lcmpW p0 (0 : Int64))), (.int (1 : Int32))] t
        refine XS.ifNo X66.here hx rfl (hb hby at_85) rfl ((if0 _ _).trans (tlt hc65).2.2.2) ?_
        show own_At p e below m T66 88 #[.val (.long p0), .second, .val (.long p1), .second, .val (.long p2), .second, .val (.int p3), .val (.ref b10), .val (.ref b34), .val (.int (1 : Int32)), .unset, .unset, .unset, .unset] [(.int (1 : Int32))] t
        refine XS.iconst X66.here hx rfl (hb hby at_88) ?_
        show own_At p e below m T66 89 #[.val (.long p0), .second, .val (.long p1), .second, .val (.long p2), .second, .val (.int p3), .val (.ref b10), .val (.ref b34), .val (.int (1 : Int32)), .unset, .unset, .unset, .unset] [(.int (1 : Int32)), (.int (1 : Int32))] t
        refine XS.goto X66.here hx rfl (pc0 := 89) (pc' := 93) rfl (hb hby at_89) (by decide) (by decide) ?_
        show own_At p e below m T66 93 #[.val (.long p0), .second, .val (.long p1), .second, .val (.long p2), .second, .val (.int p3), .val (.ref b10), .val (.ref b34), .val (.int (1 : Int32)), .unset, .unset, .unset, .unset] [(.int (1 : Int32)), (.int (1 : Int32))] t
        refine XS.icmpNo X66.here hx rfl (hb hby at_93) rfl (teq (by decide : (1 : Int32) = (1 : Int32))).2 ?_
        show own_At p e below m T66 96 #[.val (.long p0), .second, .val (.long p1), .second, .val (.long p2), .second, .val (.int p3), .val (.ref b10), .val (.ref b34), .val (.int (1 : Int32)), .unset, .unset, .unset, .unset] [] t
        refine XS.iconst X66.here hx rfl (hb hby at_96) ?_
        show own_At p e below m T66 97 #[.val (.long p0), .second, .val (.long p1), .second, .val (.long p2), .second, .val (.int p3), .val (.ref b10), .val (.ref b34), .val (.int (1 : Int32)), .unset, .unset, .unset, .unset] [(.int (1 : Int32))] t
        refine XS.goto X66.here hx rfl (pc0 := 97) (pc' := 101) rfl (hb hby at_97) (by decide) (by decide) ?_
        show own_At p e below m T66 101 #[.val (.long p0), .second, .val (.long p1), .second, .val (.long p2), .second, .val (.int p3), .val (.ref b10), .val (.ref b34), .val (.int (1 : Int32)), .unset, .unset, .unset, .unset] [(.int (1 : Int32))] t
        refine XS.istore X66.here hx rfl (hb hby at_101) rfl (l' := #[.val (.long p0), .second, .val (.long p1), .second, .val (.long p2), .second, .val (.int p3), .val (.ref b10), .val (.ref b34), .val (.int (1 : Int32)), .val (.int (1 : Int32)), .unset, .unset, .unset]) rfl ?_
        show own_At p e below m T66 103 #[.val (.long p0), .second, .val (.long p1), .second, .val (.long p2), .second, .val (.int p3), .val (.ref b10), .val (.ref b34), .val (.int (1 : Int32)), .val (.int (1 : Int32)), .unset, .unset, .unset] [] t
        exact k
      exact J37 _ _  X66 hp66 N66 k67
    · obtain ⟨cq68, kq68, q68a, q68b, q68c⟩ := isOf hZ hp35 F34_0
      obtain ⟨_, _, ⟨T68, L68, k68, n68⟩, -, X68, ⟨Lc68, hQ68, l68, y68, z68⟩, st68⟩ := X35.virtualBack hx (y := own_m20) (z := own_m20) hown (mvT hZ (own_w hw 128 rfl)) (mvT hZ (own_w hw 129 rfl)) (notFace_of_selects (args := #[]) (mvT hZ (own_w hw 131 rfl))) (mvT hZ (own_w hw 131 rfl)) (mvT hZ (own_w hw 130 rfl)) (by decide) (backOf (W := 0) (rm_taken_f l Z a0 hw [] b34 p0 _ _ _ _ _ _ _ _ T34.heap n0 O34 hE F34_1 hc65) hZ (own_w hw 132 rfl) (own_w hw 71 rfl) (by decide) (by decide)) q68a q68c (g := (mkF m 79 #[.val (.long p0), .second, .val (.long p1), .second, .val (.long p2), .second, .val (.int p3), .val (.ref b10), .val (.ref b34), .val (.int (1 : Int32)), .unset, .unset, .unset, .unset] [(.ref b34)])) rfl (by rw [hml]; rfl) (Steps.refl _) (argsL := []) (rest := []) (lenOf pd___Z rfl) rfl (by show 2 * 0 + _ ≤ _; exact Nat.le_of_eq rfl) (hb hby at_79) (fun _ _ => ⟨rfl, hp35, (by decide : 5 + 0 ≤ _), (by decide : 18 + 0 ≤ _)⟩)
      dsimp only [Pt.U, Pt.locs, Pt.cells, Pt.slots] at X68 l68 y68 z68 st68 hQ68
      subst l68 y68 z68
      obtain ⟨rfl, N68q, hp68⟩ := hQ68
      have N68 := Fr.app N35 N68q
      have k69 : ∀ t, own_At p e below m T68 103 #[.val (.long p0), .second, .val (.long p1), .second, .val (.long p2), .second, .val (.int p3), .val (.ref b10), .val (.ref b34), .val (.int (1 : Int32)), .val (.int (1 : Int32)), .unset, .unset, .unset] [] t → own_En p e below m s₁ #[(.long p0), (.long p1), (.long p2), (.int p3)] maxLocals t := by
        intro t k
        refine k36 t ?_
        refine st68.trans ?_
        show own_At p e below m T68 82 #[.val (.long p0), .second, .val (.long p1), .second, .val (.long p2), .second, .val (.int p3), .val (.ref b10), .val (.ref b34), .val (.int (1 : Int32)), .unset, .unset, .unset, .unset] [(.int (0 : Int32))] t
        refine XS.lloadN X68.here hx rfl (hb hby at_82) rfl ?_
        show own_At p e below m T68 83 #[.val (.long p0), .second, .val (.long p1), .second, .val (.long p2), .second, .val (.int p3), .val (.ref b10), .val (.ref b34), .val (.int (1 : Int32)), .unset, .unset, .unset, .unset] [(.long p0), (.int (0 : Int32))] t
        refine XS.lconst X68.here hx rfl (hb hby at_83) ?_
        show own_At p e below m T68 84 #[.val (.long p0), .second, .val (.long p1), .second, .val (.long p2), .second, .val (.int p3), .val (.ref b10), .val (.ref b34), .val (.int (1 : Int32)), .unset, .unset, .unset, .unset] [(.long (0 : Int64)), (.long p0), (.int (0 : Int32))] t
        refine XS.lcmp X68.here hx rfl (hb hby at_84) rfl ?_
        show own_At p e below m T68 85 #[.val (.long p0), .second, .val (.long p1), .second, .val (.long p2), .second, .val (.int p3), .val (.ref b10), .val (.ref b34), .val (.int (1 : Int32)), .unset, .unset, .unset, .unset] [(.int (lcmpW p0 (0 : Int64))), (.int (0 : Int32))] t
        refine XS.ifYes X68.here hx rfl (pc0 := 85) (pc' := 92) rfl (hb hby at_85) rfl ((if0 _ _).trans (flt hc65).2.2.2) (by decide) (by decide) ?_
        show own_At p e below m T68 92 #[.val (.long p0), .second, .val (.long p1), .second, .val (.long p2), .second, .val (.int p3), .val (.ref b10), .val (.ref b34), .val (.int (1 : Int32)), .unset, .unset, .unset, .unset] [(.int (0 : Int32))] t
        refine XS.iconst X68.here hx rfl (hb hby at_92) ?_
        show own_At p e below m T68 93 #[.val (.long p0), .second, .val (.long p1), .second, .val (.long p2), .second, .val (.int p3), .val (.ref b10), .val (.ref b34), .val (.int (1 : Int32)), .unset, .unset, .unset, .unset] [(.int (0 : Int32)), (.int (0 : Int32))] t
        refine XS.icmpNo X68.here hx rfl (hb hby at_93) rfl (teq (by decide : (0 : Int32) = (0 : Int32))).2 ?_
        show own_At p e below m T68 96 #[.val (.long p0), .second, .val (.long p1), .second, .val (.long p2), .second, .val (.int p3), .val (.ref b10), .val (.ref b34), .val (.int (1 : Int32)), .unset, .unset, .unset, .unset] [] t
        refine XS.iconst X68.here hx rfl (hb hby at_96) ?_
        show own_At p e below m T68 97 #[.val (.long p0), .second, .val (.long p1), .second, .val (.long p2), .second, .val (.int p3), .val (.ref b10), .val (.ref b34), .val (.int (1 : Int32)), .unset, .unset, .unset, .unset] [(.int (1 : Int32))] t
        refine XS.goto X68.here hx rfl (pc0 := 97) (pc' := 101) rfl (hb hby at_97) (by decide) (by decide) ?_
        show own_At p e below m T68 101 #[.val (.long p0), .second, .val (.long p1), .second, .val (.long p2), .second, .val (.int p3), .val (.ref b10), .val (.ref b34), .val (.int (1 : Int32)), .unset, .unset, .unset, .unset] [(.int (1 : Int32))] t
        refine XS.istore X68.here hx rfl (hb hby at_101) rfl (l' := #[.val (.long p0), .second, .val (.long p1), .second, .val (.long p2), .second, .val (.int p3), .val (.ref b10), .val (.ref b34), .val (.int (1 : Int32)), .val (.int (1 : Int32)), .unset, .unset, .unset]) rfl ?_
        show own_At p e below m T68 103 #[.val (.long p0), .second, .val (.long p1), .second, .val (.long p2), .second, .val (.int p3), .val (.ref b10), .val (.ref b34), .val (.int (1 : Int32)), .val (.int (1 : Int32)), .unset, .unset, .unset] [] t
        exact k
      exact J37 _ _  X68 hp68 N68 k69
  · obtain ⟨_, _, ⟨T70, L70, k70, n70⟩, -, X70, ⟨Lc70, hQ70, l70, y70, z70⟩, st70⟩ := Jvm.LawKit.callS X26 hx (y := own_m2) hown (mvT hZ (own_w hw 26 rfl)) (mvT hZ (own_w hw 27 rfl)) (mvT hZ (own_w hw 28 rfl)) (mvT hZ (own_w hw 29 rfl)) (by decide) (backOf (W := 1) (rm_lv l Z a0 hw [] p2 _ _ _ _ _ _ _ _ T26.heap n0 O26 hE  ) hZ (own_w hw 29 rfl) (own_w hw 28 rfl) (by decide) (by decide)) (g := (mkF m 44 #[.val (.long p0), .second, .val (.long p1), .second, .val (.long p2), .second, .val (.int p3), .val (.ref b10), .unset, .unset, .unset, .unset, .unset, .unset] [(.long p2), (.ref b10)])) rfl (by rw [hml]; rfl) (argsL := [(.long p2)]) (rest := [(.ref b10)]) (lenOf pd__J_Ljava_lang_Long_ rfl) rfl (by show 2 * 0 + _ ≤ _; exact Nat.le_of_eq rfl) (hb hby at_44) (fun _ _ => ⟨rfl, rfl, (by decide : 4 + 1 ≤ _), (by decide : 15 + 1 ≤ _)⟩)
    dsimp only [Pt.U, Pt.locs, Pt.cells, Pt.slots] at X70 l70 y70 z70 st70 hQ70
    subst l70 y70 z70
    obtain ⟨b70, rfl, N70q, O70, Kc70, F70_0, F70_1⟩ := hQ70
    have N70 := Fr.app N26 N70q
    have K70 := K26.trans Kc70 (fun x hx => nomatch hx)
    have lt_b70 := F70_0.lt
    have f71 := (F26_0.keep Kc70)
    have neL70 : ¬ (b70 = b10) := ne_exa F70_0 f71 (by decide)
    have f72 := (F26_4.keep Kc70 List.not_mem_nil)
    have neD70 : ¬ (b70 = b17) := Exa.neArv F70_0 f72 (own_w hw 169 rfl)
    have f73 := (F26_1.keep Kc70 List.not_mem_nil)
    have f74 := (F26_2.keep Kc70 List.not_mem_nil)
    have f75 := (F26_3.keep Kc70 List.not_mem_nil)
    have f76 := F26_5
    obtain ⟨cq77, kq77, q77a, q77b, q77c⟩ := isOf hZ rfl f71
    obtain ⟨_, _, ⟨T77, L77, k77, n77⟩, -, X77, ⟨Lc77, hQ77, l77, y77, z77⟩, st77⟩ := X70.interfaceBack hx (xi := own_m27) (y := own_m10) hown (mvT hZ (own_w hw 34 rfl)) (mvT hZ (own_w hw 35 rfl)) (mvT hZ (own_w hw 36 rfl)) (mvT hZ (own_w hw 37 rfl)) (mvT hZ (own_w hw 38 rfl)) (mvT hZ (own_w hw 39 rfl)) (mvT hZ (own_w hw 40 rfl)) (mvT hZ (own_w hw 41 rfl)) (by decide) (backOf (W := 0) (rm_ad2 l Z a0 hw [] b10 (((0 : Int32) + (1 : Int32)) + (1 : Int32)) b70 b17 k17 b12 b18 _ _ _ _ _ _ _ _ T70.heap n0 O70 hE f71 f73 f74 f75 f72 f76 F70_0 g_b10 g_b17 ne21) hZ (own_w hw 42 rfl) (own_w hw 2 rfl) (by decide) (by decide)) q77a q77b q77c (g := (mkF m 47 #[.val (.long p0), .second, .val (.long p1), .second, .val (.long p2), .second, .val (.int p3), .val (.ref b10), .unset, .unset, .unset, .unset, .unset, .unset] [(.ref b70), (.ref b10)])) rfl (by rw [hml]; rfl) (Steps.refl _) (argsL := [(.ref b70)]) (rest := []) (lenOf pd__Ljava_lang_Object__Z rfl) rfl (by show 2 * 0 + _ ≤ _; exact Nat.le_of_eq rfl) (hb hby at_47) (fun _ _ => ⟨rfl, rfl, (by decide : 5 + 0 ≤ _), (by decide : 16 + 0 ≤ _)⟩)
    dsimp only [Pt.U, Pt.locs, Pt.cells, Pt.slots] at X77 l77 y77 z77 st77 hQ77
    subst l77 y77 z77
    obtain ⟨rfl, N77q, O77, Kc77, F77_0, F77_1, F77_2, F77_3, F77_4, F77_5⟩ := hQ77
    have N77 := Fr.app N70 N77q
    have K77 := K70.trans Kc77 (allS (Or.inr s_b10) (allS (Or.inr s_b17) all0))
    have f78 := (((((F12_0.keep Kc17).keep Kc18).keep Kc26).keep Kc70).keep Kc77)
    have ne79 : ¬ (b12 = b17) := (Nat.ne_of_lt (Nat.lt_of_lt_of_le lt_b12 gs_b17))
    have f80 := (((((F12_1.keep Kc17 (fun q => neL12 (List.mem_singleton.mp q))).keep Kc18 List.not_mem_nil).keep Kc26 (by simp only [List.mem_cons, List.not_mem_nil, or_false, not_or]; exact ⟨neL12, ne79⟩)).keep Kc70 List.not_mem_nil).keep Kc77 (by simp only [List.mem_cons, List.not_mem_nil, or_false, not_or]; exact ⟨neL12, ne79⟩))
    have f81 := (((F18_0.keep Kc26).keep Kc70).keep Kc77)
    have f82 := (((F18_1.keep Kc26 (by simp only [List.mem_cons, List.not_mem_nil, or_false, not_or]; exact ⟨neL18, neD18⟩)).keep Kc70 List.not_mem_nil).keep Kc77 (by simp only [List.mem_cons, List.not_mem_nil, or_false, not_or]; exact ⟨neL18, neD18⟩))
    obtain ⟨_, _, ⟨T83, L83, k83, n83⟩, -, X83, ⟨Lc83, hQ83, l83, y83, z83⟩, st83⟩ := Jvm.LawKit.callS X77 hx (y := own_m26) hown (mvT hZ (own_w hw 69 rfl)) (mvT hZ (own_w hw 70 rfl)) (mvT hZ (own_w hw 71 rfl)) (mvT hZ (own_w hw 72 rfl)) (by decide) (backOf (W := 0) (rm_ol3 l Z a0 hw [] b10 b17 k17 b12 b18 b70 p0 p1 _ _ _ _ _ _ _ _ T77.heap n0 O77 hE F77_0 F77_2 F77_3 F77_4 f78 f80 f81 f82 ) hZ (own_w hw 72 rfl) (own_w hw 71 rfl) (by decide) (by decide)) (g := (mkF m 55 #[.val (.long p0), .second, .val (.long p1), .second, .val (.long p2), .second, .val (.int p3), .val (.ref b10), .unset, .unset, .unset, .unset, .unset, .unset] [(.ref b10)])) rfl (by rw [hml]; rfl) (argsL := [(.ref b10)]) (rest := []) (lenOf pd__Ljava_util_List__Lcom_example_plus1_plus1_Take_ rfl) rfl (by show 2 * 0 + _ ≤ _; exact Nat.le_of_eq rfl) (hb hby at_55) (fun _ _ => ⟨rfl, rfl, (by decide : 5 + 1 ≤ _), (by decide : 16 + 3 ≤ _)⟩)
    dsimp only [Pt.U, Pt.locs, Pt.cells, Pt.slots] at X83 l83 y83 z83 st83 hQ83
    subst l83 y83 z83
    obtain ⟨b83, rfl, N83q, O83, Kc83, g_b83, gs_b83, F83_0, F83_1, F83_2, F83_3⟩ := hQ83
    have N83 := Fr.app N77 N83q
    have K83 := K77.trans Kc83 (fun x hx => nomatch hx)
    have s_b83 := Nat.le_trans K77.1 gs_b83
    have lt_b83 := F83_0.lt
    obtain ⟨cq84, kq84, q84a, q84b, q84c⟩ := isOf hZ rfl F83_0
    obtain ⟨_, _, ⟨T84, L84, k84, n84⟩, -, X84, ⟨Lc84, hQ84, l84, y84, z84⟩, st84⟩ := X83.virtualBack hx (y := own_m19) (z := own_m19) hown (mvT hZ (own_w hw 123 rfl)) (mvT hZ (own_w hw 124 rfl)) (notFace_of_selects (args := #[]) (mvT hZ (own_w hw 126 rfl))) (mvT hZ (own_w hw 126 rfl)) (mvT hZ (own_w hw 125 rfl)) (by decide) (backOf (W := 0) (rm_holds l Z a0 hw [] b83 p0 _ _ _ _ _ _ _ _ T83.heap n0 O83 hE F83_1 ) hZ (own_w hw 127 rfl) (own_w hw 71 rfl) (by decide) (by decide)) q84a q84c (g := (mkF m 62 #[.val (.long p0), .second, .val (.long p1), .second, .val (.long p2), .second, .val (.int p3), .val (.ref b10), .val (.ref b83), .unset, .unset, .unset, .unset, .unset] [(.ref b83)])) rfl (by rw [hml]; rfl) (Steps.refl _) (argsL := []) (rest := []) (lenOf pd___J rfl) rfl (by show 2 * 0 + _ ≤ _; exact Nat.le_of_eq rfl) (hb hby at_62) (fun _ _ => ⟨rfl, rfl, (by decide : 6 + 0 ≤ _), (by decide : 19 + 0 ≤ _)⟩)
    dsimp only [Pt.U, Pt.locs, Pt.cells, Pt.slots] at X84 l84 y84 z84 st84 hQ84
    subst l84 y84 z84
    obtain ⟨rfl, N84q, hp84⟩ := hQ84
    have N84 := Fr.app N83 N84q
    have k85 : ∀ t, own_At p e below m T84 79 #[.val (.long p0), .second, .val (.long p1), .second, .val (.long p2), .second, .val (.int p3), .val (.ref b10), .val (.ref b83), .val (.int (1 : Int32)), .unset, .unset, .unset, .unset] [(.ref b83)] t → own_En p e below m s₁ #[(.long p0), (.long p1), (.long p2), (.int p3)] maxLocals t := by
      intro t k
      refine k27 t ?_
      refine XS.ifNo X26.here hx rfl (hb hby at_37) rfl ((if0 _ _).trans (feq hc28).1) ?_
      show own_At p e below m T26 40 #[.val (.long p0), .second, .val (.long p1), .second, .val (.long p2), .second, .val (.int p3), .val (.ref b10), .unset, .unset, .unset, .unset, .unset, .unset] [] t
      refine XS.aload X26.here hx rfl (hb hby at_40) rfl rfl ?_
      show own_At p e below m T26 42 #[.val (.long p0), .second, .val (.long p1), .second, .val (.long p2), .second, .val (.int p3), .val (.ref b10), .unset, .unset, .unset, .unset, .unset, .unset] [(.ref b10)] t
      refine XS.lload X26.here hx rfl (hb hby at_42) rfl ?_
      show own_At p e below m T26 44 #[.val (.long p0), .second, .val (.long p1), .second, .val (.long p2), .second, .val (.int p3), .val (.ref b10), .unset, .unset, .unset, .unset, .unset, .unset] [(.long p2), (.ref b10)] t
      refine st70 _ ?_
      show own_At p e below m T70 47 #[.val (.long p0), .second, .val (.long p1), .second, .val (.long p2), .second, .val (.int p3), .val (.ref b10), .unset, .unset, .unset, .unset, .unset, .unset] [(.ref b70), (.ref b10)] t
      refine st77.trans ?_
      show own_At p e below m T77 52 #[.val (.long p0), .second, .val (.long p1), .second, .val (.long p2), .second, .val (.int p3), .val (.ref b10), .unset, .unset, .unset, .unset, .unset, .unset] [(.int (1 : Int32))] t
      refine XS.pop X77.here hx rfl (hb hby at_52) rfl rfl ?_
      show own_At p e below m T77 53 #[.val (.long p0), .second, .val (.long p1), .second, .val (.long p2), .second, .val (.int p3), .val (.ref b10), .unset, .unset, .unset, .unset, .unset, .unset] [] t
      refine XS.aload X77.here hx rfl (hb hby at_53) rfl rfl ?_
      show own_At p e below m T77 55 #[.val (.long p0), .second, .val (.long p1), .second, .val (.long p2), .second, .val (.int p3), .val (.ref b10), .unset, .unset, .unset, .unset, .unset, .unset] [(.ref b10)] t
      refine st83 _ ?_
      show own_At p e below m T83 58 #[.val (.long p0), .second, .val (.long p1), .second, .val (.long p2), .second, .val (.int p3), .val (.ref b10), .unset, .unset, .unset, .unset, .unset, .unset] [(.ref b83)] t
      refine XS.astore X83.here hx rfl (hb hby at_58) rfl rfl (l' := #[.val (.long p0), .second, .val (.long p1), .second, .val (.long p2), .second, .val (.int p3), .val (.ref b10), .val (.ref b83), .unset, .unset, .unset, .unset, .unset]) rfl ?_
      show own_At p e below m T83 60 #[.val (.long p0), .second, .val (.long p1), .second, .val (.long p2), .second, .val (.int p3), .val (.ref b10), .val (.ref b83), .unset, .unset, .unset, .unset, .unset] [] t
      refine XS.aload X83.here hx rfl (hb hby at_60) rfl rfl ?_
      show own_At p e below m T83 62 #[.val (.long p0), .second, .val (.long p1), .second, .val (.long p2), .second, .val (.int p3), .val (.ref b10), .val (.ref b83), .unset, .unset, .unset, .unset, .unset] [(.ref b83)] t
      refine st84.trans ?_
      show own_At p e below m T84 65 #[.val (.long p0), .second, .val (.long p1), .second, .val (.long p2), .second, .val (.int p3), .val (.ref b10), .val (.ref b83), .unset, .unset, .unset, .unset, .unset] [(.long p0)] t
      refine XS.lloadN X84.here hx rfl (hb hby at_65) rfl ?_
      show own_At p e below m T84 66 #[.val (.long p0), .second, .val (.long p1), .second, .val (.long p2), .second, .val (.int p3), .val (.ref b10), .val (.ref b83), .unset, .unset, .unset, .unset, .unset] [(.long p0), (.long p0)] t
      refine XS.lcmp X84.here hx rfl (hb hby at_66) rfl ?_
      show own_At p e below m T84 67 #[.val (.long p0), .second, .val (.long p1), .second, .val (.long p2), .second, .val (.int p3), .val (.ref b10), .val (.ref b83), .unset, .unset, .unset, .unset, .unset] [(.int (lcmpW p0 p0))] t
      refine XS.ifNo X84.here hx rfl (hb hby at_67) rfl ((if0 _ _).trans (teq ((lw_eq _ _).mpr rfl)).2) ?_
      show own_At p e below m T84 70 #[.val (.long p0), .second, .val (.long p1), .second, .val (.long p2), .second, .val (.int p3), .val (.ref b10), .val (.ref b83), .unset, .unset, .unset, .unset, .unset] [] t
      refine XS.iconst X84.here hx rfl (hb hby at_70) ?_
      show own_At p e below m T84 71 #[.val (.long p0), .second, .val (.long p1), .second, .val (.long p2), .second, .val (.int p3), .val (.ref b10), .val (.ref b83), .unset, .unset, .unset, .unset, .unset] [(.int (1 : Int32))] t
      refine XS.goto X84.here hx rfl (pc0 := 71) (pc' := 75) rfl (hb hby at_71) (by decide) (by decide) ?_
      show own_At p e below m T84 75 #[.val (.long p0), .second, .val (.long p1), .second, .val (.long p2), .second, .val (.int p3), .val (.ref b10), .val (.ref b83), .unset, .unset, .unset, .unset, .unset] [(.int (1 : Int32))] t
      refine XS.istore X84.here hx rfl (hb hby at_75) rfl (l' := #[.val (.long p0), .second, .val (.long p1), .second, .val (.long p2), .second, .val (.int p3), .val (.ref b10), .val (.ref b83), .val (.int (1 : Int32)), .unset, .unset, .unset, .unset]) rfl ?_
      show own_At p e below m T84 77 #[.val (.long p0), .second, .val (.long p1), .second, .val (.long p2), .second, .val (.int p3), .val (.ref b10), .val (.ref b83), .val (.int (1 : Int32)), .unset, .unset, .unset, .unset] [] t
      refine XS.aload X84.here hx rfl (hb hby at_77) rfl rfl ?_
      show own_At p e below m T84 79 #[.val (.long p0), .second, .val (.long p1), .second, .val (.long p2), .second, .val (.int p3), .val (.ref b10), .val (.ref b83), .val (.int (1 : Int32)), .unset, .unset, .unset, .unset] [(.ref b83)] t
      exact k
    have J86 : ∀ (T86 : State) (locs86 : List Loc) (X86 : Stand p l e room_1 s m #[(.long p0), (.long p1), (.long p2), (.int p3)] below meth c T86 locs86 6 19) (e86 : T86.heap = T83.heap) (N86 : Fr n0 locs86) (k86 : ∀ t, own_At p e below m T86 103 #[.val (.long p0), .second, .val (.long p1), .second, .val (.long p2), .second, .val (.int p3), .val (.ref b10), .val (.ref b83), .val (.int (1 : Int32)), .val (.int (1 : Int32)), .unset, .unset, .unset] [] t → own_En p e below m s₁ #[(.long p0), (.long p1), (.long p2), (.int p3)] maxLocals t), False := by
      intro T86 locs86 X86 e86 N86 k86
      obtain ⟨cq87, kq87, q87a, q87b, q87c⟩ := isOf hZ e86 F83_0
      obtain ⟨_, _, ⟨T87, L87, k87, n87⟩, -, X87, ⟨Lc87, hQ87, l87, y87, z87⟩, st87⟩ := X86.virtualBack hx (y := own_m21) (z := own_m21) hown (mvT hZ (own_w hw 133 rfl)) (mvT hZ (own_w hw 134 rfl)) (notFace_of_selects (args := #[]) (mvT hZ (own_w hw 136 rfl))) (mvT hZ (own_w hw 136 rfl)) (mvT hZ (own_w hw 135 rfl)) (by decide) (backOf (W := 0) (rm_heldB l Z a0 hw [] b83 (own_held p0 a_TRUE a_FALSE) _ _ _ _ _ _ _ _ T83.heap n0 O83 hE F83_3 ) hZ (own_w hw 137 rfl) (own_w hw 71 rfl) (by decide) (by decide)) q87a q87c (g := (mkF m 105 #[.val (.long p0), .second, .val (.long p1), .second, .val (.long p2), .second, .val (.int p3), .val (.ref b10), .val (.ref b83), .val (.int (1 : Int32)), .val (.int (1 : Int32)), .unset, .unset, .unset] [(.ref b83)])) rfl (by rw [hml]; rfl) (Steps.refl _) (argsL := []) (rest := []) (lenOf pd___Ljava_lang_Boolean_ rfl) rfl (by show 2 * 0 + _ ≤ _; exact Nat.le_of_eq rfl) (hb hby at_105) (fun _ _ => ⟨rfl, e86, (by decide : 6 + 0 ≤ _), (by decide : 19 + 0 ≤ _)⟩)
      dsimp only [Pt.U, Pt.locs, Pt.cells, Pt.slots] at X87 l87 y87 z87 st87 hQ87
      subst l87 y87 z87
      obtain ⟨rfl, N87q, hp87⟩ := hQ87
      have N87 := Fr.app N86 N87q
      have k88 : ∀ t, own_At p e below m T87 110 #[.val (.long p0), .second, .val (.long p1), .second, .val (.long p2), .second, .val (.int p3), .val (.ref b10), .val (.ref b83), .val (.int (1 : Int32)), .val (.int (1 : Int32)), .val (.ref (own_held p0 a_TRUE a_FALSE)), .unset, .unset] [] t → own_En p e below m s₁ #[(.long p0), (.long p1), (.long p2), (.int p3)] maxLocals t := by
        intro t k
        refine k86 t ?_
        refine XS.aload X86.here hx rfl (hb hby at_103) rfl rfl ?_
        show own_At p e below m T86 105 #[.val (.long p0), .second, .val (.long p1), .second, .val (.long p2), .second, .val (.int p3), .val (.ref b10), .val (.ref b83), .val (.int (1 : Int32)), .val (.int (1 : Int32)), .unset, .unset, .unset] [(.ref b83)] t
        refine st87.trans ?_
        show own_At p e below m T87 108 #[.val (.long p0), .second, .val (.long p1), .second, .val (.long p2), .second, .val (.int p3), .val (.ref b10), .val (.ref b83), .val (.int (1 : Int32)), .val (.int (1 : Int32)), .unset, .unset, .unset] [(.ref (own_held p0 a_TRUE a_FALSE))] t
        refine XS.astore X87.here hx rfl (hb hby at_108) rfl rfl (l' := #[.val (.long p0), .second, .val (.long p1), .second, .val (.long p2), .second, .val (.int p3), .val (.ref b10), .val (.ref b83), .val (.int (1 : Int32)), .val (.int (1 : Int32)), .val (.ref (own_held p0 a_TRUE a_FALSE)), .unset, .unset]) rfl ?_
        show own_At p e below m T87 110 #[.val (.long p0), .second, .val (.long p1), .second, .val (.long p2), .second, .val (.int p3), .val (.ref b10), .val (.ref b83), .val (.int (1 : Int32)), .val (.int (1 : Int32)), .val (.ref (own_held p0 a_TRUE a_FALSE)), .unset, .unset] [] t
        exact k
      have J89 : ∀ (T89 : State) (locs89 : List Loc) (u89_11 : Value) (X89 : Stand p l e room_1 s m #[(.long p0), (.long p1), (.long p2), (.int p3)] below meth c T89 locs89 6 19) (e89 : T89.heap = T83.heap) (N89 : Fr n0 locs89) (k89 : ∀ t, own_At p e below m T89 141 #[.val (.long p0), .second, .val (.long p1), .second, .val (.long p2), .second, .val (.int p3), .val (.ref b10), .val (.ref b83), .val (.int (1 : Int32)), .val (.int (1 : Int32)), .val u89_11, .val (.int (1 : Int32)), .unset] [] t → own_En p e below m s₁ #[(.long p0), (.long p1), (.long p2), (.int p3)] maxLocals t), False := by
        intro T89 locs89 u89_11 X89 e89 N89 k89
        have J90 : ∀ (T90 : State) (locs90 : List Loc) (X90 : Stand p l e room_1 s m #[(.long p0), (.long p1), (.long p2), (.int p3)] below meth c T90 locs90 6 19) (e90 : T90.heap = T83.heap) (N90 : Fr n0 locs90) (k90 : ∀ t, own_At p e below m T90 169 #[.val (.long p0), .second, .val (.long p1), .second, .val (.long p2), .second, .val (.int p3), .val (.ref b10), .val (.ref b83), .val (.int (1 : Int32)), .val (.int (1 : Int32)), .val u89_11, .val (.int (1 : Int32)), .val (.int (1 : Int32))] [] t → own_En p e below m s₁ #[(.long p0), (.long p1), (.long p2), (.int p3)] maxLocals t), False := by
          intro T90 locs90 X90 e90 N90 k90
          have k91 : ∀ t, own_At p e below m T90 194 #[.val (.long p0), .second, .val (.long p1), .second, .val (.long p2), .second, .val (.int p3), .val (.ref b10), .val (.ref b83), .val (.int (1 : Int32)), .val (.int (1 : Int32)), .val u89_11, .val (.int (1 : Int32)), .val (.int (1 : Int32))] [(.int (1 : Int32))] t → own_En p e below m s₁ #[(.long p0), (.long p1), (.long p2), (.int p3)] maxLocals t := by
            intro t k
            refine k90 t ?_
            refine XS.iload X90.here hx rfl (hb hby at_169) rfl ?_
            show own_At p e below m T90 171 #[.val (.long p0), .second, .val (.long p1), .second, .val (.long p2), .second, .val (.int p3), .val (.ref b10), .val (.ref b83), .val (.int (1 : Int32)), .val (.int (1 : Int32)), .val u89_11, .val (.int (1 : Int32)), .val (.int (1 : Int32))] [(.int (1 : Int32))] t
            refine XS.ifNo X90.here hx rfl (hb hby at_171) rfl ((if0 _ _).trans (feq (by decide : ¬ ((1 : Int32) = (0 : Int32)))).1) ?_
            show own_At p e below m T90 174 #[.val (.long p0), .second, .val (.long p1), .second, .val (.long p2), .second, .val (.int p3), .val (.ref b10), .val (.ref b83), .val (.int (1 : Int32)), .val (.int (1 : Int32)), .val u89_11, .val (.int (1 : Int32)), .val (.int (1 : Int32))] [] t
            refine XS.iload X90.here hx rfl (hb hby at_174) rfl ?_
            show own_At p e below m T90 176 #[.val (.long p0), .second, .val (.long p1), .second, .val (.long p2), .second, .val (.int p3), .val (.ref b10), .val (.ref b83), .val (.int (1 : Int32)), .val (.int (1 : Int32)), .val u89_11, .val (.int (1 : Int32)), .val (.int (1 : Int32))] [(.int (1 : Int32))] t
            refine XS.ifNo X90.here hx rfl (hb hby at_176) rfl ((if0 _ _).trans (feq (by decide : ¬ ((1 : Int32) = (0 : Int32)))).1) ?_
            show own_At p e below m T90 179 #[.val (.long p0), .second, .val (.long p1), .second, .val (.long p2), .second, .val (.int p3), .val (.ref b10), .val (.ref b83), .val (.int (1 : Int32)), .val (.int (1 : Int32)), .val u89_11, .val (.int (1 : Int32)), .val (.int (1 : Int32))] [] t
            refine XS.iload X90.here hx rfl (hb hby at_179) rfl ?_
            show own_At p e below m T90 181 #[.val (.long p0), .second, .val (.long p1), .second, .val (.long p2), .second, .val (.int p3), .val (.ref b10), .val (.ref b83), .val (.int (1 : Int32)), .val (.int (1 : Int32)), .val u89_11, .val (.int (1 : Int32)), .val (.int (1 : Int32))] [(.int (1 : Int32))] t
            refine XS.ifNo X90.here hx rfl (hb hby at_181) rfl ((if0 _ _).trans (feq (by decide : ¬ ((1 : Int32) = (0 : Int32)))).1) ?_
            show own_At p e below m T90 184 #[.val (.long p0), .second, .val (.long p1), .second, .val (.long p2), .second, .val (.int p3), .val (.ref b10), .val (.ref b83), .val (.int (1 : Int32)), .val (.int (1 : Int32)), .val u89_11, .val (.int (1 : Int32)), .val (.int (1 : Int32))] [] t
            refine XS.iload X90.here hx rfl (hb hby at_184) rfl ?_
            show own_At p e below m T90 186 #[.val (.long p0), .second, .val (.long p1), .second, .val (.long p2), .second, .val (.int p3), .val (.ref b10), .val (.ref b83), .val (.int (1 : Int32)), .val (.int (1 : Int32)), .val u89_11, .val (.int (1 : Int32)), .val (.int (1 : Int32))] [(.int (1 : Int32))] t
            refine XS.ifNo X90.here hx rfl (hb hby at_186) rfl ((if0 _ _).trans (feq (by decide : ¬ ((1 : Int32) = (0 : Int32)))).1) ?_
            show own_At p e below m T90 189 #[.val (.long p0), .second, .val (.long p1), .second, .val (.long p2), .second, .val (.int p3), .val (.ref b10), .val (.ref b83), .val (.int (1 : Int32)), .val (.int (1 : Int32)), .val u89_11, .val (.int (1 : Int32)), .val (.int (1 : Int32))] [] t
            refine XS.iconst X90.here hx rfl (hb hby at_189) ?_
            show own_At p e below m T90 190 #[.val (.long p0), .second, .val (.long p1), .second, .val (.long p2), .second, .val (.int p3), .val (.ref b10), .val (.ref b83), .val (.int (1 : Int32)), .val (.int (1 : Int32)), .val u89_11, .val (.int (1 : Int32)), .val (.int (1 : Int32))] [(.int (1 : Int32))] t
            refine XS.goto X90.here hx rfl (pc0 := 190) (pc' := 194) rfl (hb hby at_190) (by decide) (by decide) ?_
            show own_At p e below m T90 194 #[.val (.long p0), .second, .val (.long p1), .second, .val (.long p2), .second, .val (.int p3), .val (.ref b10), .val (.ref b83), .val (.int (1 : Int32)), .val (.int (1 : Int32)), .val u89_11, .val (.int (1 : Int32)), .val (.int (1 : Int32))] [(.int (1 : Int32))] t
            exact k
          obtain ⟨fs, hr, hrun, hended, hW, hsame⟩ := X90.leave (v := some (.int (1 : Int32))) (fun h => by rw [Bd.returns] at h; cases h)
          refine hNG ⟨_, _, k91 _ ?_, hrun, hended, _, _, rfl, ?_, ⟨_, rfl⟩, hW, hsame.mono (by decide) (by decide)⟩
          · exact retN X90 hx (t := .boolean) Bd.returns (by simp) (hb hby at_194) hr
          · show Q_law Z p0 p1 p2 p3 a_EMPTY_ELEMENTDATA a_DEFAULTCAPACITY_EMPTY_ELEMENTDATA a_cache a_TRUE a_MILLISECONDS a_MILLISECONDS_name a_FALSE cl_cache h0 n0 _ T90.heap _
            rw [e90]
            exact ⟨rfl, N90⟩
        have k92 : ∀ t, own_At p e below m T89 146 #[.val (.long p0), .second, .val (.long p1), .second, .val (.long p2), .second, .val (.int p3), .val (.ref b10), .val (.ref b83), .val (.int (1 : Int32)), .val (.int (1 : Int32)), .val u89_11, .val (.int (1 : Int32)), .unset] [(.int (lcmpW p1 (9223372036854775807 : Int64)))] t → own_En p e below m s₁ #[(.long p0), (.long p1), (.long p2), (.int p3)] maxLocals t := by
          intro t k
          refine k89 t ?_
          refine XS.lloadN X89.here hx rfl (hb hby at_141) rfl ?_
          show own_At p e below m T89 142 #[.val (.long p0), .second, .val (.long p1), .second, .val (.long p2), .second, .val (.int p3), .val (.ref b10), .val (.ref b83), .val (.int (1 : Int32)), .val (.int (1 : Int32)), .val u89_11, .val (.int (1 : Int32)), .unset] [(.long p1)] t
          refine X89.ldc2J hx hown (mvT hZ (own_w hw 145 rfl)) rfl (hb hby at_142) ?_
          show own_At p e below m T89 145 #[.val (.long p0), .second, .val (.long p1), .second, .val (.long p2), .second, .val (.int p3), .val (.ref b10), .val (.ref b83), .val (.int (1 : Int32)), .val (.int (1 : Int32)), .val u89_11, .val (.int (1 : Int32)), .unset] [(.long (9223372036854775807 : Int64)), (.long p1)] t
          refine XS.lcmp X89.here hx rfl (hb hby at_145) rfl ?_
          show own_At p e below m T89 146 #[.val (.long p0), .second, .val (.long p1), .second, .val (.long p2), .second, .val (.int p3), .val (.ref b10), .val (.ref b83), .val (.int (1 : Int32)), .val (.int (1 : Int32)), .val u89_11, .val (.int (1 : Int32)), .unset] [(.int (lcmpW p1 (9223372036854775807 : Int64)))] t
          exact k
        by_cases hc93 : (lcmpW p1 (9223372036854775807 : Int64)) = (0 : Int32)
        · have k94 : ∀ t, own_At p e below m T89 169 #[.val (.long p0), .second, .val (.long p1), .second, .val (.long p2), .second, .val (.int p3), .val (.ref b10), .val (.ref b83), .val (.int (1 : Int32)), .val (.int (1 : Int32)), .val u89_11, .val (.int (1 : Int32)), .val (.int (1 : Int32))] [] t → own_En p e below m s₁ #[(.long p0), (.long p1), (.long p2), (.int p3)] maxLocals t := by
            intro t k
            refine k92 t ?_
            refine XS.ifYes X89.here hx rfl (pc0 := 146) (pc' := 162) rfl (hb hby at_146) rfl ((if0 _ _).trans (teq hc93).1) (by decide) (by decide) ?_
            show own_At p e below m T89 162 #[.val (.long p0), .second, .val (.long p1), .second, .val (.long p2), .second, .val (.int p3), .val (.ref b10), .val (.ref b83), .val (.int (1 : Int32)), .val (.int (1 : Int32)), .val u89_11, .val (.int (1 : Int32)), .unset] [] t
            refine XS.iconst X89.here hx rfl (hb hby at_162) ?_
            show own_At p e below m T89 163 #[.val (.long p0), .second, .val (.long p1), .second, .val (.long p2), .second, .val (.int p3), .val (.ref b10), .val (.ref b83), .val (.int (1 : Int32)), .val (.int (1 : Int32)), .val u89_11, .val (.int (1 : Int32)), .unset] [(.int (1 : Int32))] t
            refine XS.goto X89.here hx rfl (pc0 := 163) (pc' := 167) rfl (hb hby at_163) (by decide) (by decide) ?_
            show own_At p e below m T89 167 #[.val (.long p0), .second, .val (.long p1), .second, .val (.long p2), .second, .val (.int p3), .val (.ref b10), .val (.ref b83), .val (.int (1 : Int32)), .val (.int (1 : Int32)), .val u89_11, .val (.int (1 : Int32)), .unset] [(.int (1 : Int32))] t
            refine XS.istore X89.here hx rfl (hb hby at_167) rfl (l' := #[.val (.long p0), .second, .val (.long p1), .second, .val (.long p2), .second, .val (.int p3), .val (.ref b10), .val (.ref b83), .val (.int (1 : Int32)), .val (.int (1 : Int32)), .val u89_11, .val (.int (1 : Int32)), .val (.int (1 : Int32))]) rfl ?_
            show own_At p e below m T89 169 #[.val (.long p0), .second, .val (.long p1), .second, .val (.long p2), .second, .val (.int p3), .val (.ref b10), .val (.ref b83), .val (.int (1 : Int32)), .val (.int (1 : Int32)), .val u89_11, .val (.int (1 : Int32)), .val (.int (1 : Int32))] [] t
            exact k
          exact J90 _ _  X89 e89 N89 k94
        · have k95 : ∀ t, own_At p e below m T89 151 #[.val (.long p0), .second, .val (.long p1), .second, .val (.long p2), .second, .val (.int p3), .val (.ref b10), .val (.ref b83), .val (.int (1 : Int32)), .val (.int (1 : Int32)), .val u89_11, .val (.int (1 : Int32)), .unset] [(.ref b83)] t → own_En p e below m s₁ #[(.long p0), (.long p1), (.long p2), (.int p3)] maxLocals t := by
            intro t k
            refine k92 t ?_
            refine XS.ifNo X89.here hx rfl (hb hby at_146) rfl ((if0 _ _).trans (feq hc93).1) ?_
            show own_At p e below m T89 149 #[.val (.long p0), .second, .val (.long p1), .second, .val (.long p2), .second, .val (.int p3), .val (.ref b10), .val (.ref b83), .val (.int (1 : Int32)), .val (.int (1 : Int32)), .val u89_11, .val (.int (1 : Int32)), .unset] [] t
            refine XS.aload X89.here hx rfl (hb hby at_149) rfl rfl ?_
            show own_At p e below m T89 151 #[.val (.long p0), .second, .val (.long p1), .second, .val (.long p2), .second, .val (.int p3), .val (.ref b10), .val (.ref b83), .val (.int (1 : Int32)), .val (.int (1 : Int32)), .val u89_11, .val (.int (1 : Int32)), .unset] [(.ref b83)] t
            exact k
          by_cases hc96 : (lcmpW p1 (0 : Int64)) < (0 : Int32)
          · obtain ⟨cq97, kq97, q97a, q97b, q97c⟩ := isOf hZ e89 F83_0
            obtain ⟨_, _, ⟨T97, L97, k97, n97⟩, -, X97, ⟨Lc97, hQ97, l97, y97, z97⟩, st97⟩ := X89.virtualBack hx (y := own_m23) (z := own_m23) hown (mvT hZ (own_w hw 146 rfl)) (mvT hZ (own_w hw 147 rfl)) (notFace_of_selects (args := #[]) (mvT hZ (own_w hw 149 rfl))) (mvT hZ (own_w hw 149 rfl)) (mvT hZ (own_w hw 148 rfl)) (by decide) (backOf (W := 0) (rm_rn_neg l Z a0 hw [] b83 p1 _ _ _ _ _ _ _ _ T83.heap n0 O83 hE F83_2 hc96) hZ (own_w hw 150 rfl) (own_w hw 71 rfl) (by decide) (by decide)) q97a q97c (g := (mkF m 151 #[.val (.long p0), .second, .val (.long p1), .second, .val (.long p2), .second, .val (.int p3), .val (.ref b10), .val (.ref b83), .val (.int (1 : Int32)), .val (.int (1 : Int32)), .val u89_11, .val (.int (1 : Int32)), .unset] [(.ref b83)])) rfl (by rw [hml]; rfl) (Steps.refl _) (argsL := []) (rest := []) (lenOf pd___J rfl) rfl (by show 2 * 0 + _ ≤ _; exact Nat.le_of_eq rfl) (hb hby at_151) (fun _ _ => ⟨rfl, e89, (by decide : 6 + 0 ≤ _), (by decide : 19 + 0 ≤ _)⟩)
            dsimp only [Pt.U, Pt.locs, Pt.cells, Pt.slots] at X97 l97 y97 z97 st97 hQ97
            subst l97 y97 z97
            obtain ⟨rfl, N97q, hp97⟩ := hQ97
            have N97 := Fr.app N89 N97q
            obtain ⟨_, _, ⟨T98, L98, k98, n98⟩, -, X98, ⟨Lc98, hQ98, l98, y98, z98⟩, st98⟩ := Jvm.LawKit.callS X97 hx (y := own_m24) hown (mvT hZ (own_w hw 162 rfl)) (mvT hZ (own_w hw 163 rfl)) (mvT hZ (own_w hw 164 rfl)) (mvT hZ (own_w hw 165 rfl)) (by decide) (backOf (W := 2) (rm_xp_neg l Z a0 hw [] p1 _ _ _ _ _ _ _ _ T83.heap n0 O83 hE hc96) hZ (own_w hw 165 rfl) (own_w hw 164 rfl) (by decide) (by decide)) (g := (mkF m 155 #[.val (.long p0), .second, .val (.long p1), .second, .val (.long p2), .second, .val (.int p3), .val (.ref b10), .val (.ref b83), .val (.int (1 : Int32)), .val (.int (1 : Int32)), .val u89_11, .val (.int (1 : Int32)), .unset] [(.long p1), (.long (9223372036854775807 : Int64))])) rfl (by rw [hml]; rfl) (argsL := [(.long p1)]) (rest := [(.long (9223372036854775807 : Int64))]) (lenOf pd__J_J rfl) rfl (by show 2 * 0 + _ ≤ _; exact Nat.le_of_eq rfl) (hb hby at_155) (fun _ _ => ⟨rfl, hp97, (by decide : 6 + 0 ≤ _), (by decide : 19 + 0 ≤ _)⟩)
            dsimp only [Pt.U, Pt.locs, Pt.cells, Pt.slots] at X98 l98 y98 z98 st98 hQ98
            subst l98 y98 z98
            obtain ⟨rfl, N98q, hp98⟩ := hQ98
            have N98 := Fr.app N97 N98q
            have k99 : ∀ t, own_At p e below m T98 169 #[.val (.long p0), .second, .val (.long p1), .second, .val (.long p2), .second, .val (.int p3), .val (.ref b10), .val (.ref b83), .val (.int (1 : Int32)), .val (.int (1 : Int32)), .val u89_11, .val (.int (1 : Int32)), .val (.int (1 : Int32))] [] t → own_En p e below m s₁ #[(.long p0), (.long p1), (.long p2), (.int p3)] maxLocals t := by
              intro t k
              refine k95 t ?_
              refine st97.trans ?_
              show own_At p e below m T97 154 #[.val (.long p0), .second, .val (.long p1), .second, .val (.long p2), .second, .val (.int p3), .val (.ref b10), .val (.ref b83), .val (.int (1 : Int32)), .val (.int (1 : Int32)), .val u89_11, .val (.int (1 : Int32)), .unset] [(.long (9223372036854775807 : Int64))] t
              refine XS.lloadN X97.here hx rfl (hb hby at_154) rfl ?_
              show own_At p e below m T97 155 #[.val (.long p0), .second, .val (.long p1), .second, .val (.long p2), .second, .val (.int p3), .val (.ref b10), .val (.ref b83), .val (.int (1 : Int32)), .val (.int (1 : Int32)), .val u89_11, .val (.int (1 : Int32)), .unset] [(.long p1), (.long (9223372036854775807 : Int64))] t
              refine st98 _ ?_
              show own_At p e below m T98 158 #[.val (.long p0), .second, .val (.long p1), .second, .val (.long p2), .second, .val (.int p3), .val (.ref b10), .val (.ref b83), .val (.int (1 : Int32)), .val (.int (1 : Int32)), .val u89_11, .val (.int (1 : Int32)), .unset] [(.long (9223372036854775807 : Int64)), (.long (9223372036854775807 : Int64))] t
              refine XS.lcmp X98.here hx rfl (hb hby at_158) rfl ?_
              show own_At p e below m T98 159 #[.val (.long p0), .second, .val (.long p1), .second, .val (.long p2), .second, .val (.int p3), .val (.ref b10), .val (.ref b83), .val (.int (1 : Int32)), .val (.int (1 : Int32)), .val u89_11, .val (.int (1 : Int32)), .unset] [(.int (lcmpW (9223372036854775807 : Int64) (9223372036854775807 : Int64)))] t
              rw [show (lcmpW (9223372036854775807 : Int64) (9223372036854775807 : Int64)) = (0 : Int32) from by decide]
              show own_At p e below m T98 159 #[.val (.long p0), .second, .val (.long p1), .second, .val (.long p2), .second, .val (.int p3), .val (.ref b10), .val (.ref b83), .val (.int (1 : Int32)), .val (.int (1 : Int32)), .val u89_11, .val (.int (1 : Int32)), .unset] [(.int (0 : Int32))] t
              refine XS.ifNo X98.here hx rfl (hb hby at_159) rfl ((if0 _ _).trans (teq (by decide : (0 : Int32) = (0 : Int32))).2) ?_
              show own_At p e below m T98 162 #[.val (.long p0), .second, .val (.long p1), .second, .val (.long p2), .second, .val (.int p3), .val (.ref b10), .val (.ref b83), .val (.int (1 : Int32)), .val (.int (1 : Int32)), .val u89_11, .val (.int (1 : Int32)), .unset] [] t
              refine XS.iconst X98.here hx rfl (hb hby at_162) ?_
              show own_At p e below m T98 163 #[.val (.long p0), .second, .val (.long p1), .second, .val (.long p2), .second, .val (.int p3), .val (.ref b10), .val (.ref b83), .val (.int (1 : Int32)), .val (.int (1 : Int32)), .val u89_11, .val (.int (1 : Int32)), .unset] [(.int (1 : Int32))] t
              refine XS.goto X98.here hx rfl (pc0 := 163) (pc' := 167) rfl (hb hby at_163) (by decide) (by decide) ?_
              show own_At p e below m T98 167 #[.val (.long p0), .second, .val (.long p1), .second, .val (.long p2), .second, .val (.int p3), .val (.ref b10), .val (.ref b83), .val (.int (1 : Int32)), .val (.int (1 : Int32)), .val u89_11, .val (.int (1 : Int32)), .unset] [(.int (1 : Int32))] t
              refine XS.istore X98.here hx rfl (hb hby at_167) rfl (l' := #[.val (.long p0), .second, .val (.long p1), .second, .val (.long p2), .second, .val (.int p3), .val (.ref b10), .val (.ref b83), .val (.int (1 : Int32)), .val (.int (1 : Int32)), .val u89_11, .val (.int (1 : Int32)), .val (.int (1 : Int32))]) rfl ?_
              show own_At p e below m T98 169 #[.val (.long p0), .second, .val (.long p1), .second, .val (.long p2), .second, .val (.int p3), .val (.ref b10), .val (.ref b83), .val (.int (1 : Int32)), .val (.int (1 : Int32)), .val u89_11, .val (.int (1 : Int32)), .val (.int (1 : Int32))] [] t
              exact k
            exact J90 _ _  X98 hp98 N98 k99
          · by_cases hc100 : (0 : Int32) < (lcmpW (p1 + (1 : Int64)) (9223372036854 : Int64))
            · obtain ⟨cq101, kq101, q101a, q101b, q101c⟩ := isOf hZ e89 F83_0
              obtain ⟨_, _, ⟨T101, L101, k101, n101⟩, -, X101, ⟨Lc101, hQ101, l101, y101, z101⟩, st101⟩ := X89.virtualBack hx (y := own_m23) (z := own_m23) hown (mvT hZ (own_w hw 146 rfl)) (mvT hZ (own_w hw 147 rfl)) (notFace_of_selects (args := #[]) (mvT hZ (own_w hw 149 rfl))) (mvT hZ (own_w hw 149 rfl)) (mvT hZ (own_w hw 148 rfl)) (by decide) (backOf (W := 0) (rm_rn_t l Z a0 hw [] b83 p1 _ _ _ _ _ _ _ _ T83.heap n0 O83 hE F83_2 hc93 hc96 hc100) hZ (own_w hw 150 rfl) (own_w hw 71 rfl) (by decide) (by decide)) q101a q101c (g := (mkF m 151 #[.val (.long p0), .second, .val (.long p1), .second, .val (.long p2), .second, .val (.int p3), .val (.ref b10), .val (.ref b83), .val (.int (1 : Int32)), .val (.int (1 : Int32)), .val u89_11, .val (.int (1 : Int32)), .unset] [(.ref b83)])) rfl (by rw [hml]; rfl) (Steps.refl _) (argsL := []) (rest := []) (lenOf pd___J rfl) rfl (by show 2 * 0 + _ ≤ _; exact Nat.le_of_eq rfl) (hb hby at_151) (fun _ _ => ⟨rfl, e89, (by decide : 6 + 0 ≤ _), (by decide : 19 + 0 ≤ _)⟩)
              dsimp only [Pt.U, Pt.locs, Pt.cells, Pt.slots] at X101 l101 y101 z101 st101 hQ101
              subst l101 y101 z101
              obtain ⟨rfl, N101q, hp101⟩ := hQ101
              have N101 := Fr.app N89 N101q
              obtain ⟨_, _, ⟨T102, L102, k102, n102⟩, -, X102, ⟨Lc102, hQ102, l102, y102, z102⟩, st102⟩ := Jvm.LawKit.callS X101 hx (y := own_m24) hown (mvT hZ (own_w hw 162 rfl)) (mvT hZ (own_w hw 163 rfl)) (mvT hZ (own_w hw 164 rfl)) (mvT hZ (own_w hw 165 rfl)) (by decide) (backOf (W := 2) (rm_xp_t l Z a0 hw [] p1 _ _ _ _ _ _ _ _ T83.heap n0 O83 hE hc96 hc100) hZ (own_w hw 165 rfl) (own_w hw 164 rfl) (by decide) (by decide)) (g := (mkF m 155 #[.val (.long p0), .second, .val (.long p1), .second, .val (.long p2), .second, .val (.int p3), .val (.ref b10), .val (.ref b83), .val (.int (1 : Int32)), .val (.int (1 : Int32)), .val u89_11, .val (.int (1 : Int32)), .unset] [(.long p1), (.long (9223372036854775807 : Int64))])) rfl (by rw [hml]; rfl) (argsL := [(.long p1)]) (rest := [(.long (9223372036854775807 : Int64))]) (lenOf pd__J_J rfl) rfl (by show 2 * 0 + _ ≤ _; exact Nat.le_of_eq rfl) (hb hby at_155) (fun _ _ => ⟨rfl, hp101, (by decide : 6 + 0 ≤ _), (by decide : 19 + 0 ≤ _)⟩)
              dsimp only [Pt.U, Pt.locs, Pt.cells, Pt.slots] at X102 l102 y102 z102 st102 hQ102
              subst l102 y102 z102
              obtain ⟨rfl, N102q, hp102⟩ := hQ102
              have N102 := Fr.app N101 N102q
              have k103 : ∀ t, own_At p e below m T102 169 #[.val (.long p0), .second, .val (.long p1), .second, .val (.long p2), .second, .val (.int p3), .val (.ref b10), .val (.ref b83), .val (.int (1 : Int32)), .val (.int (1 : Int32)), .val u89_11, .val (.int (1 : Int32)), .val (.int (1 : Int32))] [] t → own_En p e below m s₁ #[(.long p0), (.long p1), (.long p2), (.int p3)] maxLocals t := by
                intro t k
                refine k95 t ?_
                refine st101.trans ?_
                show own_At p e below m T101 154 #[.val (.long p0), .second, .val (.long p1), .second, .val (.long p2), .second, .val (.int p3), .val (.ref b10), .val (.ref b83), .val (.int (1 : Int32)), .val (.int (1 : Int32)), .val u89_11, .val (.int (1 : Int32)), .unset] [(.long (9223372036854775807 : Int64))] t
                refine XS.lloadN X101.here hx rfl (hb hby at_154) rfl ?_
                show own_At p e below m T101 155 #[.val (.long p0), .second, .val (.long p1), .second, .val (.long p2), .second, .val (.int p3), .val (.ref b10), .val (.ref b83), .val (.int (1 : Int32)), .val (.int (1 : Int32)), .val u89_11, .val (.int (1 : Int32)), .unset] [(.long p1), (.long (9223372036854775807 : Int64))] t
                refine st102 _ ?_
                show own_At p e below m T102 158 #[.val (.long p0), .second, .val (.long p1), .second, .val (.long p2), .second, .val (.int p3), .val (.ref b10), .val (.ref b83), .val (.int (1 : Int32)), .val (.int (1 : Int32)), .val u89_11, .val (.int (1 : Int32)), .unset] [(.long (9223372036854775807 : Int64)), (.long (9223372036854775807 : Int64))] t
                refine XS.lcmp X102.here hx rfl (hb hby at_158) rfl ?_
                show own_At p e below m T102 159 #[.val (.long p0), .second, .val (.long p1), .second, .val (.long p2), .second, .val (.int p3), .val (.ref b10), .val (.ref b83), .val (.int (1 : Int32)), .val (.int (1 : Int32)), .val u89_11, .val (.int (1 : Int32)), .unset] [(.int (lcmpW (9223372036854775807 : Int64) (9223372036854775807 : Int64)))] t
                rw [show (lcmpW (9223372036854775807 : Int64) (9223372036854775807 : Int64)) = (0 : Int32) from by decide]
                show own_At p e below m T102 159 #[.val (.long p0), .second, .val (.long p1), .second, .val (.long p2), .second, .val (.int p3), .val (.ref b10), .val (.ref b83), .val (.int (1 : Int32)), .val (.int (1 : Int32)), .val u89_11, .val (.int (1 : Int32)), .unset] [(.int (0 : Int32))] t
                refine XS.ifNo X102.here hx rfl (hb hby at_159) rfl ((if0 _ _).trans (teq (by decide : (0 : Int32) = (0 : Int32))).2) ?_
                show own_At p e below m T102 162 #[.val (.long p0), .second, .val (.long p1), .second, .val (.long p2), .second, .val (.int p3), .val (.ref b10), .val (.ref b83), .val (.int (1 : Int32)), .val (.int (1 : Int32)), .val u89_11, .val (.int (1 : Int32)), .unset] [] t
                refine XS.iconst X102.here hx rfl (hb hby at_162) ?_
                show own_At p e below m T102 163 #[.val (.long p0), .second, .val (.long p1), .second, .val (.long p2), .second, .val (.int p3), .val (.ref b10), .val (.ref b83), .val (.int (1 : Int32)), .val (.int (1 : Int32)), .val u89_11, .val (.int (1 : Int32)), .unset] [(.int (1 : Int32))] t
                refine XS.goto X102.here hx rfl (pc0 := 163) (pc' := 167) rfl (hb hby at_163) (by decide) (by decide) ?_
                show own_At p e below m T102 167 #[.val (.long p0), .second, .val (.long p1), .second, .val (.long p2), .second, .val (.int p3), .val (.ref b10), .val (.ref b83), .val (.int (1 : Int32)), .val (.int (1 : Int32)), .val u89_11, .val (.int (1 : Int32)), .unset] [(.int (1 : Int32))] t
                refine XS.istore X102.here hx rfl (hb hby at_167) rfl (l' := #[.val (.long p0), .second, .val (.long p1), .second, .val (.long p2), .second, .val (.int p3), .val (.ref b10), .val (.ref b83), .val (.int (1 : Int32)), .val (.int (1 : Int32)), .val u89_11, .val (.int (1 : Int32)), .val (.int (1 : Int32))]) rfl ?_
                show own_At p e below m T102 169 #[.val (.long p0), .second, .val (.long p1), .second, .val (.long p2), .second, .val (.int p3), .val (.ref b10), .val (.ref b83), .val (.int (1 : Int32)), .val (.int (1 : Int32)), .val u89_11, .val (.int (1 : Int32)), .val (.int (1 : Int32))] [] t
                exact k
              exact J90 _ _  X102 hp102 N102 k103
            · obtain ⟨cq104, kq104, q104a, q104b, q104c⟩ := isOf hZ e89 F83_0
              obtain ⟨_, _, ⟨T104, L104, k104, n104⟩, -, X104, ⟨Lc104, hQ104, l104, y104, z104⟩, st104⟩ := X89.virtualBack hx (y := own_m23) (z := own_m23) hown (mvT hZ (own_w hw 146 rfl)) (mvT hZ (own_w hw 147 rfl)) (notFace_of_selects (args := #[]) (mvT hZ (own_w hw 149 rfl))) (mvT hZ (own_w hw 149 rfl)) (mvT hZ (own_w hw 148 rfl)) (by decide) (backOf (W := 0) (rm_rn_f l Z a0 hw [] b83 p1 _ _ _ _ _ _ _ _ T83.heap n0 O83 hE F83_2 hc93 hc96 hc100) hZ (own_w hw 150 rfl) (own_w hw 71 rfl) (by decide) (by decide)) q104a q104c (g := (mkF m 151 #[.val (.long p0), .second, .val (.long p1), .second, .val (.long p2), .second, .val (.int p3), .val (.ref b10), .val (.ref b83), .val (.int (1 : Int32)), .val (.int (1 : Int32)), .val u89_11, .val (.int (1 : Int32)), .unset] [(.ref b83)])) rfl (by rw [hml]; rfl) (Steps.refl _) (argsL := []) (rest := []) (lenOf pd___J rfl) rfl (by show 2 * 0 + _ ≤ _; exact Nat.le_of_eq rfl) (hb hby at_151) (fun _ _ => ⟨rfl, e89, (by decide : 6 + 0 ≤ _), (by decide : 19 + 0 ≤ _)⟩)
              dsimp only [Pt.U, Pt.locs, Pt.cells, Pt.slots] at X104 l104 y104 z104 st104 hQ104
              subst l104 y104 z104
              obtain ⟨rfl, N104q, hp104⟩ := hQ104
              have N104 := Fr.app N89 N104q
              obtain ⟨_, _, ⟨T105, L105, k105, n105⟩, -, X105, ⟨Lc105, hQ105, l105, y105, z105⟩, st105⟩ := Jvm.LawKit.callS X104 hx (y := own_m24) hown (mvT hZ (own_w hw 162 rfl)) (mvT hZ (own_w hw 163 rfl)) (mvT hZ (own_w hw 164 rfl)) (mvT hZ (own_w hw 165 rfl)) (by decide) (backOf (W := 2) (rm_xp_f l Z a0 hw [] p1 _ _ _ _ _ _ _ _ T83.heap n0 O83 hE hc96 hc100) hZ (own_w hw 165 rfl) (own_w hw 164 rfl) (by decide) (by decide)) (g := (mkF m 155 #[.val (.long p0), .second, .val (.long p1), .second, .val (.long p2), .second, .val (.int p3), .val (.ref b10), .val (.ref b83), .val (.int (1 : Int32)), .val (.int (1 : Int32)), .val u89_11, .val (.int (1 : Int32)), .unset] [(.long p1), (.long ((p1 + (1 : Int64)) * (1000000 : Int64)))])) rfl (by rw [hml]; rfl) (argsL := [(.long p1)]) (rest := [(.long ((p1 + (1 : Int64)) * (1000000 : Int64)))]) (lenOf pd__J_J rfl) rfl (by show 2 * 0 + _ ≤ _; exact Nat.le_of_eq rfl) (hb hby at_155) (fun _ _ => ⟨rfl, hp104, (by decide : 6 + 0 ≤ _), (by decide : 19 + 0 ≤ _)⟩)
              dsimp only [Pt.U, Pt.locs, Pt.cells, Pt.slots] at X105 l105 y105 z105 st105 hQ105
              subst l105 y105 z105
              obtain ⟨rfl, N105q, hp105⟩ := hQ105
              have N105 := Fr.app N104 N105q
              have k106 : ∀ t, own_At p e below m T105 169 #[.val (.long p0), .second, .val (.long p1), .second, .val (.long p2), .second, .val (.int p3), .val (.ref b10), .val (.ref b83), .val (.int (1 : Int32)), .val (.int (1 : Int32)), .val u89_11, .val (.int (1 : Int32)), .val (.int (1 : Int32))] [] t → own_En p e below m s₁ #[(.long p0), (.long p1), (.long p2), (.int p3)] maxLocals t := by
                intro t k
                refine k95 t ?_
                refine st104.trans ?_
                show own_At p e below m T104 154 #[.val (.long p0), .second, .val (.long p1), .second, .val (.long p2), .second, .val (.int p3), .val (.ref b10), .val (.ref b83), .val (.int (1 : Int32)), .val (.int (1 : Int32)), .val u89_11, .val (.int (1 : Int32)), .unset] [(.long ((p1 + (1 : Int64)) * (1000000 : Int64)))] t
                refine XS.lloadN X104.here hx rfl (hb hby at_154) rfl ?_
                show own_At p e below m T104 155 #[.val (.long p0), .second, .val (.long p1), .second, .val (.long p2), .second, .val (.int p3), .val (.ref b10), .val (.ref b83), .val (.int (1 : Int32)), .val (.int (1 : Int32)), .val u89_11, .val (.int (1 : Int32)), .unset] [(.long p1), (.long ((p1 + (1 : Int64)) * (1000000 : Int64)))] t
                refine st105 _ ?_
                show own_At p e below m T105 158 #[.val (.long p0), .second, .val (.long p1), .second, .val (.long p2), .second, .val (.int p3), .val (.ref b10), .val (.ref b83), .val (.int (1 : Int32)), .val (.int (1 : Int32)), .val u89_11, .val (.int (1 : Int32)), .unset] [(.long ((p1 + (1 : Int64)) * (1000000 : Int64))), (.long ((p1 + (1 : Int64)) * (1000000 : Int64)))] t
                refine XS.lcmp X105.here hx rfl (hb hby at_158) rfl ?_
                show own_At p e below m T105 159 #[.val (.long p0), .second, .val (.long p1), .second, .val (.long p2), .second, .val (.int p3), .val (.ref b10), .val (.ref b83), .val (.int (1 : Int32)), .val (.int (1 : Int32)), .val u89_11, .val (.int (1 : Int32)), .unset] [(.int (lcmpW ((p1 + (1 : Int64)) * (1000000 : Int64)) ((p1 + (1 : Int64)) * (1000000 : Int64))))] t
                refine XS.ifNo X105.here hx rfl (hb hby at_159) rfl ((if0 _ _).trans (teq ((lw_eq _ _).mpr rfl)).2) ?_
                show own_At p e below m T105 162 #[.val (.long p0), .second, .val (.long p1), .second, .val (.long p2), .second, .val (.int p3), .val (.ref b10), .val (.ref b83), .val (.int (1 : Int32)), .val (.int (1 : Int32)), .val u89_11, .val (.int (1 : Int32)), .unset] [] t
                refine XS.iconst X105.here hx rfl (hb hby at_162) ?_
                show own_At p e below m T105 163 #[.val (.long p0), .second, .val (.long p1), .second, .val (.long p2), .second, .val (.int p3), .val (.ref b10), .val (.ref b83), .val (.int (1 : Int32)), .val (.int (1 : Int32)), .val u89_11, .val (.int (1 : Int32)), .unset] [(.int (1 : Int32))] t
                refine XS.goto X105.here hx rfl (pc0 := 163) (pc' := 167) rfl (hb hby at_163) (by decide) (by decide) ?_
                show own_At p e below m T105 167 #[.val (.long p0), .second, .val (.long p1), .second, .val (.long p2), .second, .val (.int p3), .val (.ref b10), .val (.ref b83), .val (.int (1 : Int32)), .val (.int (1 : Int32)), .val u89_11, .val (.int (1 : Int32)), .unset] [(.int (1 : Int32))] t
                refine XS.istore X105.here hx rfl (hb hby at_167) rfl (l' := #[.val (.long p0), .second, .val (.long p1), .second, .val (.long p2), .second, .val (.int p3), .val (.ref b10), .val (.ref b83), .val (.int (1 : Int32)), .val (.int (1 : Int32)), .val u89_11, .val (.int (1 : Int32)), .val (.int (1 : Int32))]) rfl ?_
                show own_At p e below m T105 169 #[.val (.long p0), .second, .val (.long p1), .second, .val (.long p2), .second, .val (.int p3), .val (.ref b10), .val (.ref b83), .val (.int (1 : Int32)), .val (.int (1 : Int32)), .val u89_11, .val (.int (1 : Int32)), .val (.int (1 : Int32))] [] t
                exact k
              exact J90 _ _  X105 hp105 N105 k106
      by_cases hc107 : (0 : Int32) < (lcmpW p0 (1 : Int64))
      · have eh : own_held p0 a_TRUE a_FALSE = a_TRUE := if_pos hc107
        have k108 : ∀ t, own_At p e below m T87 110 #[.val (.long p0), .second, .val (.long p1), .second, .val (.long p2), .second, .val (.int p3), .val (.ref b10), .val (.ref b83), .val (.int (1 : Int32)), .val (.int (1 : Int32)), .val (.ref a_TRUE), .unset, .unset] [] t → own_En p e below m s₁ #[(.long p0), (.long p1), (.long p2), (.int p3)] maxLocals t := by
          intro t k
          refine k88 t ?_
          rw [eh]
          exact k
        obtain ⟨cq109, kq109, q109a, q109b, q109c⟩ := isOf hZ hp87 (E_TRUE.ext O83.2)
        obtain ⟨_, _, ⟨T109, L109, k109, n109⟩, -, X109, ⟨Lc109, hQ109, l109, y109, z109⟩, st109⟩ := X87.virtualBack hx (y := own_m28) (z := own_m28) hown (mvT hZ (own_w hw 138 rfl)) (mvT hZ (own_w hw 139 rfl)) (notFace_of_selects (args := #[]) (mvT hZ (own_w hw 141 rfl))) (mvT hZ (own_w hw 141 rfl)) (mvT hZ (own_w hw 140 rfl)) (by decide) (backOf (W := 0) (rm_f14 l Z a0 hw []  _ _ _ _ _ _ _ _ T83.heap n0 O83 hE) hZ (own_w hw 142 rfl) (own_w hw 110 rfl) (by decide) (by decide)) q109a q109c (g := (mkF m 117 #[.val (.long p0), .second, .val (.long p1), .second, .val (.long p2), .second, .val (.int p3), .val (.ref b10), .val (.ref b83), .val (.int (1 : Int32)), .val (.int (1 : Int32)), .val (.ref a_TRUE), .unset, .unset] [(.ref a_TRUE)])) rfl (by rw [hml]; rfl) (Steps.refl _) (argsL := []) (rest := []) (lenOf pd___Z rfl) rfl (by show 2 * 0 + _ ≤ _; exact Nat.le_of_eq rfl) (hb hby at_117) (fun _ _ => ⟨rfl, hp87, (by decide : 6 + 0 ≤ _), (by decide : 19 + 0 ≤ _)⟩)
        dsimp only [Pt.U, Pt.locs, Pt.cells, Pt.slots] at X109 l109 y109 z109 st109 hQ109
        subst l109 y109 z109
        obtain ⟨rfl, N109q, hp109⟩ := hQ109
        have N109 := Fr.app N87 N109q
        have k110 : ∀ t, own_At p e below m T109 141 #[.val (.long p0), .second, .val (.long p1), .second, .val (.long p2), .second, .val (.int p3), .val (.ref b10), .val (.ref b83), .val (.int (1 : Int32)), .val (.int (1 : Int32)), .val (.ref a_TRUE), .val (.int (1 : Int32)), .unset] [] t → own_En p e below m s₁ #[(.long p0), (.long p1), (.long p2), (.int p3)] maxLocals t := by
          intro t k
          refine k108 t ?_
          refine XS.aload X87.here hx rfl (hb hby at_110) rfl rfl ?_
          show own_At p e below m T87 112 #[.val (.long p0), .second, .val (.long p1), .second, .val (.long p2), .second, .val (.int p3), .val (.ref b10), .val (.ref b83), .val (.int (1 : Int32)), .val (.int (1 : Int32)), .val (.ref a_TRUE), .unset, .unset] [(.ref a_TRUE)] t
          refine XS.ifnullNo X87.here hx rfl (hb hby at_112) rfl ?_
          show own_At p e below m T87 115 #[.val (.long p0), .second, .val (.long p1), .second, .val (.long p2), .second, .val (.int p3), .val (.ref b10), .val (.ref b83), .val (.int (1 : Int32)), .val (.int (1 : Int32)), .val (.ref a_TRUE), .unset, .unset] [] t
          refine XS.aload X87.here hx rfl (hb hby at_115) rfl rfl ?_
          show own_At p e below m T87 117 #[.val (.long p0), .second, .val (.long p1), .second, .val (.long p2), .second, .val (.int p3), .val (.ref b10), .val (.ref b83), .val (.int (1 : Int32)), .val (.int (1 : Int32)), .val (.ref a_TRUE), .unset, .unset] [(.ref a_TRUE)] t
          refine st109.trans ?_
          show own_At p e below m T109 120 #[.val (.long p0), .second, .val (.long p1), .second, .val (.long p2), .second, .val (.int p3), .val (.ref b10), .val (.ref b83), .val (.int (1 : Int32)), .val (.int (1 : Int32)), .val (.ref a_TRUE), .unset, .unset] [(.int (1 : Int32))] t
          refine XS.lloadN X109.here hx rfl (hb hby at_120) rfl ?_
          show own_At p e below m T109 121 #[.val (.long p0), .second, .val (.long p1), .second, .val (.long p2), .second, .val (.int p3), .val (.ref b10), .val (.ref b83), .val (.int (1 : Int32)), .val (.int (1 : Int32)), .val (.ref a_TRUE), .unset, .unset] [(.long p0), (.int (1 : Int32))] t
          refine XS.lconst X109.here hx rfl (hb hby at_121) ?_
          show own_At p e below m T109 122 #[.val (.long p0), .second, .val (.long p1), .second, .val (.long p2), .second, .val (.int p3), .val (.ref b10), .val (.ref b83), .val (.int (1 : Int32)), .val (.int (1 : Int32)), .val (.ref a_TRUE), .unset, .unset] [(.long (1 : Int64)), (.long p0), (.int (1 : Int32))] t
          refine XS.lcmp X109.here hx rfl (hb hby at_122) rfl ?_
          show own_At p e below m T109 123 #[.val (.long p0), .second, .val (.long p1), .second, .val (.long p2), .second, .val (.int p3), .val (.ref b10), .val (.ref b83), .val (.int (1 : Int32)), .val (.int (1 : Int32)), .val (.ref a_TRUE), .unset, .unset] [(.int (lcmpW p0 (1 : Int64))), (.int (1 : Int32))] t
          refine XS.ifNo X109.here hx rfl (hb hby at_123) rfl ((if0 _ _).trans (tlt hc107).2.2.2) ?_
          show own_At p e below m T109 126 #[.val (.long p0), .second, .val (.long p1), .second, .val (.long p2), .second, .val (.int p3), .val (.ref b10), .val (.ref b83), .val (.int (1 : Int32)), .val (.int (1 : Int32)), .val (.ref a_TRUE), .unset, .unset] [(.int (1 : Int32))] t
          refine XS.iconst X109.here hx rfl (hb hby at_126) ?_
          show own_At p e below m T109 127 #[.val (.long p0), .second, .val (.long p1), .second, .val (.long p2), .second, .val (.int p3), .val (.ref b10), .val (.ref b83), .val (.int (1 : Int32)), .val (.int (1 : Int32)), .val (.ref a_TRUE), .unset, .unset] [(.int (1 : Int32)), (.int (1 : Int32))] t
          refine XS.goto X109.here hx rfl (pc0 := 127) (pc' := 131) rfl (hb hby at_127) (by decide) (by decide) ?_
          show own_At p e below m T109 131 #[.val (.long p0), .second, .val (.long p1), .second, .val (.long p2), .second, .val (.int p3), .val (.ref b10), .val (.ref b83), .val (.int (1 : Int32)), .val (.int (1 : Int32)), .val (.ref a_TRUE), .unset, .unset] [(.int (1 : Int32)), (.int (1 : Int32))] t
          refine XS.icmpNo X109.here hx rfl (hb hby at_131) rfl (teq (by decide : (1 : Int32) = (1 : Int32))).2 ?_
          show own_At p e below m T109 134 #[.val (.long p0), .second, .val (.long p1), .second, .val (.long p2), .second, .val (.int p3), .val (.ref b10), .val (.ref b83), .val (.int (1 : Int32)), .val (.int (1 : Int32)), .val (.ref a_TRUE), .unset, .unset] [] t
          refine XS.iconst X109.here hx rfl (hb hby at_134) ?_
          show own_At p e below m T109 135 #[.val (.long p0), .second, .val (.long p1), .second, .val (.long p2), .second, .val (.int p3), .val (.ref b10), .val (.ref b83), .val (.int (1 : Int32)), .val (.int (1 : Int32)), .val (.ref a_TRUE), .unset, .unset] [(.int (1 : Int32))] t
          refine XS.goto X109.here hx rfl (pc0 := 135) (pc' := 139) rfl (hb hby at_135) (by decide) (by decide) ?_
          show own_At p e below m T109 139 #[.val (.long p0), .second, .val (.long p1), .second, .val (.long p2), .second, .val (.int p3), .val (.ref b10), .val (.ref b83), .val (.int (1 : Int32)), .val (.int (1 : Int32)), .val (.ref a_TRUE), .unset, .unset] [(.int (1 : Int32))] t
          refine XS.istore X109.here hx rfl (hb hby at_139) rfl (l' := #[.val (.long p0), .second, .val (.long p1), .second, .val (.long p2), .second, .val (.int p3), .val (.ref b10), .val (.ref b83), .val (.int (1 : Int32)), .val (.int (1 : Int32)), .val (.ref a_TRUE), .val (.int (1 : Int32)), .unset]) rfl ?_
          show own_At p e below m T109 141 #[.val (.long p0), .second, .val (.long p1), .second, .val (.long p2), .second, .val (.int p3), .val (.ref b10), .val (.ref b83), .val (.int (1 : Int32)), .val (.int (1 : Int32)), .val (.ref a_TRUE), .val (.int (1 : Int32)), .unset] [] t
          exact k
        exact J89 _ _ ((.ref a_TRUE)) X109 hp109 N109 k110
      · have eh : own_held p0 a_TRUE a_FALSE = a_FALSE := if_neg hc107
        have k111 : ∀ t, own_At p e below m T87 110 #[.val (.long p0), .second, .val (.long p1), .second, .val (.long p2), .second, .val (.int p3), .val (.ref b10), .val (.ref b83), .val (.int (1 : Int32)), .val (.int (1 : Int32)), .val (.ref a_FALSE), .unset, .unset] [] t → own_En p e below m s₁ #[(.long p0), (.long p1), (.long p2), (.int p3)] maxLocals t := by
          intro t k
          refine k88 t ?_
          rw [eh]
          exact k
        obtain ⟨cq112, kq112, q112a, q112b, q112c⟩ := isOf hZ hp87 (E_FALSE.ext O83.2)
        obtain ⟨_, _, ⟨T112, L112, k112, n112⟩, -, X112, ⟨Lc112, hQ112, l112, y112, z112⟩, st112⟩ := X87.virtualBack hx (y := own_m28) (z := own_m28) hown (mvT hZ (own_w hw 138 rfl)) (mvT hZ (own_w hw 139 rfl)) (notFace_of_selects (args := #[]) (mvT hZ (own_w hw 141 rfl))) (mvT hZ (own_w hw 141 rfl)) (mvT hZ (own_w hw 140 rfl)) (by decide) (backOf (W := 0) (rm_f15 l Z a0 hw []  _ _ _ _ _ _ _ _ T83.heap n0 O83 hE) hZ (own_w hw 142 rfl) (own_w hw 110 rfl) (by decide) (by decide)) q112a q112c (g := (mkF m 117 #[.val (.long p0), .second, .val (.long p1), .second, .val (.long p2), .second, .val (.int p3), .val (.ref b10), .val (.ref b83), .val (.int (1 : Int32)), .val (.int (1 : Int32)), .val (.ref a_FALSE), .unset, .unset] [(.ref a_FALSE)])) rfl (by rw [hml]; rfl) (Steps.refl _) (argsL := []) (rest := []) (lenOf pd___Z rfl) rfl (by show 2 * 0 + _ ≤ _; exact Nat.le_of_eq rfl) (hb hby at_117) (fun _ _ => ⟨rfl, hp87, (by decide : 6 + 0 ≤ _), (by decide : 19 + 0 ≤ _)⟩)
        dsimp only [Pt.U, Pt.locs, Pt.cells, Pt.slots] at X112 l112 y112 z112 st112 hQ112
        subst l112 y112 z112
        obtain ⟨rfl, N112q, hp112⟩ := hQ112
        have N112 := Fr.app N87 N112q
        have k113 : ∀ t, own_At p e below m T112 141 #[.val (.long p0), .second, .val (.long p1), .second, .val (.long p2), .second, .val (.int p3), .val (.ref b10), .val (.ref b83), .val (.int (1 : Int32)), .val (.int (1 : Int32)), .val (.ref a_FALSE), .val (.int (1 : Int32)), .unset] [] t → own_En p e below m s₁ #[(.long p0), (.long p1), (.long p2), (.int p3)] maxLocals t := by
          intro t k
          refine k111 t ?_
          refine XS.aload X87.here hx rfl (hb hby at_110) rfl rfl ?_
          show own_At p e below m T87 112 #[.val (.long p0), .second, .val (.long p1), .second, .val (.long p2), .second, .val (.int p3), .val (.ref b10), .val (.ref b83), .val (.int (1 : Int32)), .val (.int (1 : Int32)), .val (.ref a_FALSE), .unset, .unset] [(.ref a_FALSE)] t
          refine XS.ifnullNo X87.here hx rfl (hb hby at_112) rfl ?_
          show own_At p e below m T87 115 #[.val (.long p0), .second, .val (.long p1), .second, .val (.long p2), .second, .val (.int p3), .val (.ref b10), .val (.ref b83), .val (.int (1 : Int32)), .val (.int (1 : Int32)), .val (.ref a_FALSE), .unset, .unset] [] t
          refine XS.aload X87.here hx rfl (hb hby at_115) rfl rfl ?_
          show own_At p e below m T87 117 #[.val (.long p0), .second, .val (.long p1), .second, .val (.long p2), .second, .val (.int p3), .val (.ref b10), .val (.ref b83), .val (.int (1 : Int32)), .val (.int (1 : Int32)), .val (.ref a_FALSE), .unset, .unset] [(.ref a_FALSE)] t
          refine st112.trans ?_
          show own_At p e below m T112 120 #[.val (.long p0), .second, .val (.long p1), .second, .val (.long p2), .second, .val (.int p3), .val (.ref b10), .val (.ref b83), .val (.int (1 : Int32)), .val (.int (1 : Int32)), .val (.ref a_FALSE), .unset, .unset] [(.int (0 : Int32))] t
          refine XS.lloadN X112.here hx rfl (hb hby at_120) rfl ?_
          show own_At p e below m T112 121 #[.val (.long p0), .second, .val (.long p1), .second, .val (.long p2), .second, .val (.int p3), .val (.ref b10), .val (.ref b83), .val (.int (1 : Int32)), .val (.int (1 : Int32)), .val (.ref a_FALSE), .unset, .unset] [(.long p0), (.int (0 : Int32))] t
          refine XS.lconst X112.here hx rfl (hb hby at_121) ?_
          show own_At p e below m T112 122 #[.val (.long p0), .second, .val (.long p1), .second, .val (.long p2), .second, .val (.int p3), .val (.ref b10), .val (.ref b83), .val (.int (1 : Int32)), .val (.int (1 : Int32)), .val (.ref a_FALSE), .unset, .unset] [(.long (1 : Int64)), (.long p0), (.int (0 : Int32))] t
          refine XS.lcmp X112.here hx rfl (hb hby at_122) rfl ?_
          show own_At p e below m T112 123 #[.val (.long p0), .second, .val (.long p1), .second, .val (.long p2), .second, .val (.int p3), .val (.ref b10), .val (.ref b83), .val (.int (1 : Int32)), .val (.int (1 : Int32)), .val (.ref a_FALSE), .unset, .unset] [(.int (lcmpW p0 (1 : Int64))), (.int (0 : Int32))] t
          refine XS.ifYes X112.here hx rfl (pc0 := 123) (pc' := 130) rfl (hb hby at_123) rfl ((if0 _ _).trans (flt hc107).2.2.2) (by decide) (by decide) ?_
          show own_At p e below m T112 130 #[.val (.long p0), .second, .val (.long p1), .second, .val (.long p2), .second, .val (.int p3), .val (.ref b10), .val (.ref b83), .val (.int (1 : Int32)), .val (.int (1 : Int32)), .val (.ref a_FALSE), .unset, .unset] [(.int (0 : Int32))] t
          refine XS.iconst X112.here hx rfl (hb hby at_130) ?_
          show own_At p e below m T112 131 #[.val (.long p0), .second, .val (.long p1), .second, .val (.long p2), .second, .val (.int p3), .val (.ref b10), .val (.ref b83), .val (.int (1 : Int32)), .val (.int (1 : Int32)), .val (.ref a_FALSE), .unset, .unset] [(.int (0 : Int32)), (.int (0 : Int32))] t
          refine XS.icmpNo X112.here hx rfl (hb hby at_131) rfl (teq (by decide : (0 : Int32) = (0 : Int32))).2 ?_
          show own_At p e below m T112 134 #[.val (.long p0), .second, .val (.long p1), .second, .val (.long p2), .second, .val (.int p3), .val (.ref b10), .val (.ref b83), .val (.int (1 : Int32)), .val (.int (1 : Int32)), .val (.ref a_FALSE), .unset, .unset] [] t
          refine XS.iconst X112.here hx rfl (hb hby at_134) ?_
          show own_At p e below m T112 135 #[.val (.long p0), .second, .val (.long p1), .second, .val (.long p2), .second, .val (.int p3), .val (.ref b10), .val (.ref b83), .val (.int (1 : Int32)), .val (.int (1 : Int32)), .val (.ref a_FALSE), .unset, .unset] [(.int (1 : Int32))] t
          refine XS.goto X112.here hx rfl (pc0 := 135) (pc' := 139) rfl (hb hby at_135) (by decide) (by decide) ?_
          show own_At p e below m T112 139 #[.val (.long p0), .second, .val (.long p1), .second, .val (.long p2), .second, .val (.int p3), .val (.ref b10), .val (.ref b83), .val (.int (1 : Int32)), .val (.int (1 : Int32)), .val (.ref a_FALSE), .unset, .unset] [(.int (1 : Int32))] t
          refine XS.istore X112.here hx rfl (hb hby at_139) rfl (l' := #[.val (.long p0), .second, .val (.long p1), .second, .val (.long p2), .second, .val (.int p3), .val (.ref b10), .val (.ref b83), .val (.int (1 : Int32)), .val (.int (1 : Int32)), .val (.ref a_FALSE), .val (.int (1 : Int32)), .unset]) rfl ?_
          show own_At p e below m T112 141 #[.val (.long p0), .second, .val (.long p1), .second, .val (.long p2), .second, .val (.int p3), .val (.ref b10), .val (.ref b83), .val (.int (1 : Int32)), .val (.int (1 : Int32)), .val (.ref a_FALSE), .val (.int (1 : Int32)), .unset] [] t
          exact k
        exact J89 _ _ ((.ref a_FALSE)) X112 hp112 N112 k113
    by_cases hc114 : (0 : Int32) < (lcmpW p0 (0 : Int64))
    · obtain ⟨cq115, kq115, q115a, q115b, q115c⟩ := isOf hZ hp84 F83_0
      obtain ⟨_, _, ⟨T115, L115, k115, n115⟩, -, X115, ⟨Lc115, hQ115, l115, y115, z115⟩, st115⟩ := X84.virtualBack hx (y := own_m20) (z := own_m20) hown (mvT hZ (own_w hw 128 rfl)) (mvT hZ (own_w hw 129 rfl)) (notFace_of_selects (args := #[]) (mvT hZ (own_w hw 131 rfl))) (mvT hZ (own_w hw 131 rfl)) (mvT hZ (own_w hw 130 rfl)) (by decide) (backOf (W := 0) (rm_taken_t l Z a0 hw [] b83 p0 _ _ _ _ _ _ _ _ T83.heap n0 O83 hE F83_1 hc114) hZ (own_w hw 132 rfl) (own_w hw 71 rfl) (by decide) (by decide)) q115a q115c (g := (mkF m 79 #[.val (.long p0), .second, .val (.long p1), .second, .val (.long p2), .second, .val (.int p3), .val (.ref b10), .val (.ref b83), .val (.int (1 : Int32)), .unset, .unset, .unset, .unset] [(.ref b83)])) rfl (by rw [hml]; rfl) (Steps.refl _) (argsL := []) (rest := []) (lenOf pd___Z rfl) rfl (by show 2 * 0 + _ ≤ _; exact Nat.le_of_eq rfl) (hb hby at_79) (fun _ _ => ⟨rfl, hp84, (by decide : 6 + 0 ≤ _), (by decide : 19 + 0 ≤ _)⟩)
      dsimp only [Pt.U, Pt.locs, Pt.cells, Pt.slots] at X115 l115 y115 z115 st115 hQ115
      subst l115 y115 z115
      obtain ⟨rfl, N115q, hp115⟩ := hQ115
      have N115 := Fr.app N84 N115q
      have k116 : ∀ t, own_At p e below m T115 103 #[.val (.long p0), .second, .val (.long p1), .second, .val (.long p2), .second, .val (.int p3), .val (.ref b10), .val (.ref b83), .val (.int (1 : Int32)), .val (.int (1 : Int32)), .unset, .unset, .unset] [] t → own_En p e below m s₁ #[(.long p0), (.long p1), (.long p2), (.int p3)] maxLocals t := by
        intro t k
        refine k85 t ?_
        refine st115.trans ?_
        show own_At p e below m T115 82 #[.val (.long p0), .second, .val (.long p1), .second, .val (.long p2), .second, .val (.int p3), .val (.ref b10), .val (.ref b83), .val (.int (1 : Int32)), .unset, .unset, .unset, .unset] [(.int (1 : Int32))] t
        refine XS.lloadN X115.here hx rfl (hb hby at_82) rfl ?_
        show own_At p e below m T115 83 #[.val (.long p0), .second, .val (.long p1), .second, .val (.long p2), .second, .val (.int p3), .val (.ref b10), .val (.ref b83), .val (.int (1 : Int32)), .unset, .unset, .unset, .unset] [(.long p0), (.int (1 : Int32))] t
        refine XS.lconst X115.here hx rfl (hb hby at_83) ?_
        show own_At p e below m T115 84 #[.val (.long p0), .second, .val (.long p1), .second, .val (.long p2), .second, .val (.int p3), .val (.ref b10), .val (.ref b83), .val (.int (1 : Int32)), .unset, .unset, .unset, .unset] [(.long (0 : Int64)), (.long p0), (.int (1 : Int32))] t
        refine XS.lcmp X115.here hx rfl (hb hby at_84) rfl ?_
        show own_At p e below m T115 85 #[.val (.long p0), .second, .val (.long p1), .second, .val (.long p2), .second, .val (.int p3), .val (.ref b10), .val (.ref b83), .val (.int (1 : Int32)), .unset, .unset, .unset, .unset] [(.int (lcmpW p0 (0 : Int64))), (.int (1 : Int32))] t
        refine XS.ifNo X115.here hx rfl (hb hby at_85) rfl ((if0 _ _).trans (tlt hc114).2.2.2) ?_
        show own_At p e below m T115 88 #[.val (.long p0), .second, .val (.long p1), .second, .val (.long p2), .second, .val (.int p3), .val (.ref b10), .val (.ref b83), .val (.int (1 : Int32)), .unset, .unset, .unset, .unset] [(.int (1 : Int32))] t
        refine XS.iconst X115.here hx rfl (hb hby at_88) ?_
        show own_At p e below m T115 89 #[.val (.long p0), .second, .val (.long p1), .second, .val (.long p2), .second, .val (.int p3), .val (.ref b10), .val (.ref b83), .val (.int (1 : Int32)), .unset, .unset, .unset, .unset] [(.int (1 : Int32)), (.int (1 : Int32))] t
        refine XS.goto X115.here hx rfl (pc0 := 89) (pc' := 93) rfl (hb hby at_89) (by decide) (by decide) ?_
        show own_At p e below m T115 93 #[.val (.long p0), .second, .val (.long p1), .second, .val (.long p2), .second, .val (.int p3), .val (.ref b10), .val (.ref b83), .val (.int (1 : Int32)), .unset, .unset, .unset, .unset] [(.int (1 : Int32)), (.int (1 : Int32))] t
        refine XS.icmpNo X115.here hx rfl (hb hby at_93) rfl (teq (by decide : (1 : Int32) = (1 : Int32))).2 ?_
        show own_At p e below m T115 96 #[.val (.long p0), .second, .val (.long p1), .second, .val (.long p2), .second, .val (.int p3), .val (.ref b10), .val (.ref b83), .val (.int (1 : Int32)), .unset, .unset, .unset, .unset] [] t
        refine XS.iconst X115.here hx rfl (hb hby at_96) ?_
        show own_At p e below m T115 97 #[.val (.long p0), .second, .val (.long p1), .second, .val (.long p2), .second, .val (.int p3), .val (.ref b10), .val (.ref b83), .val (.int (1 : Int32)), .unset, .unset, .unset, .unset] [(.int (1 : Int32))] t
        refine XS.goto X115.here hx rfl (pc0 := 97) (pc' := 101) rfl (hb hby at_97) (by decide) (by decide) ?_
        show own_At p e below m T115 101 #[.val (.long p0), .second, .val (.long p1), .second, .val (.long p2), .second, .val (.int p3), .val (.ref b10), .val (.ref b83), .val (.int (1 : Int32)), .unset, .unset, .unset, .unset] [(.int (1 : Int32))] t
        refine XS.istore X115.here hx rfl (hb hby at_101) rfl (l' := #[.val (.long p0), .second, .val (.long p1), .second, .val (.long p2), .second, .val (.int p3), .val (.ref b10), .val (.ref b83), .val (.int (1 : Int32)), .val (.int (1 : Int32)), .unset, .unset, .unset]) rfl ?_
        show own_At p e below m T115 103 #[.val (.long p0), .second, .val (.long p1), .second, .val (.long p2), .second, .val (.int p3), .val (.ref b10), .val (.ref b83), .val (.int (1 : Int32)), .val (.int (1 : Int32)), .unset, .unset, .unset] [] t
        exact k
      exact J86 _ _  X115 hp115 N115 k116
    · obtain ⟨cq117, kq117, q117a, q117b, q117c⟩ := isOf hZ hp84 F83_0
      obtain ⟨_, _, ⟨T117, L117, k117, n117⟩, -, X117, ⟨Lc117, hQ117, l117, y117, z117⟩, st117⟩ := X84.virtualBack hx (y := own_m20) (z := own_m20) hown (mvT hZ (own_w hw 128 rfl)) (mvT hZ (own_w hw 129 rfl)) (notFace_of_selects (args := #[]) (mvT hZ (own_w hw 131 rfl))) (mvT hZ (own_w hw 131 rfl)) (mvT hZ (own_w hw 130 rfl)) (by decide) (backOf (W := 0) (rm_taken_f l Z a0 hw [] b83 p0 _ _ _ _ _ _ _ _ T83.heap n0 O83 hE F83_1 hc114) hZ (own_w hw 132 rfl) (own_w hw 71 rfl) (by decide) (by decide)) q117a q117c (g := (mkF m 79 #[.val (.long p0), .second, .val (.long p1), .second, .val (.long p2), .second, .val (.int p3), .val (.ref b10), .val (.ref b83), .val (.int (1 : Int32)), .unset, .unset, .unset, .unset] [(.ref b83)])) rfl (by rw [hml]; rfl) (Steps.refl _) (argsL := []) (rest := []) (lenOf pd___Z rfl) rfl (by show 2 * 0 + _ ≤ _; exact Nat.le_of_eq rfl) (hb hby at_79) (fun _ _ => ⟨rfl, hp84, (by decide : 6 + 0 ≤ _), (by decide : 19 + 0 ≤ _)⟩)
      dsimp only [Pt.U, Pt.locs, Pt.cells, Pt.slots] at X117 l117 y117 z117 st117 hQ117
      subst l117 y117 z117
      obtain ⟨rfl, N117q, hp117⟩ := hQ117
      have N117 := Fr.app N84 N117q
      have k118 : ∀ t, own_At p e below m T117 103 #[.val (.long p0), .second, .val (.long p1), .second, .val (.long p2), .second, .val (.int p3), .val (.ref b10), .val (.ref b83), .val (.int (1 : Int32)), .val (.int (1 : Int32)), .unset, .unset, .unset] [] t → own_En p e below m s₁ #[(.long p0), (.long p1), (.long p2), (.int p3)] maxLocals t := by
        intro t k
        refine k85 t ?_
        refine st117.trans ?_
        show own_At p e below m T117 82 #[.val (.long p0), .second, .val (.long p1), .second, .val (.long p2), .second, .val (.int p3), .val (.ref b10), .val (.ref b83), .val (.int (1 : Int32)), .unset, .unset, .unset, .unset] [(.int (0 : Int32))] t
        refine XS.lloadN X117.here hx rfl (hb hby at_82) rfl ?_
        show own_At p e below m T117 83 #[.val (.long p0), .second, .val (.long p1), .second, .val (.long p2), .second, .val (.int p3), .val (.ref b10), .val (.ref b83), .val (.int (1 : Int32)), .unset, .unset, .unset, .unset] [(.long p0), (.int (0 : Int32))] t
        refine XS.lconst X117.here hx rfl (hb hby at_83) ?_
        show own_At p e below m T117 84 #[.val (.long p0), .second, .val (.long p1), .second, .val (.long p2), .second, .val (.int p3), .val (.ref b10), .val (.ref b83), .val (.int (1 : Int32)), .unset, .unset, .unset, .unset] [(.long (0 : Int64)), (.long p0), (.int (0 : Int32))] t
        refine XS.lcmp X117.here hx rfl (hb hby at_84) rfl ?_
        show own_At p e below m T117 85 #[.val (.long p0), .second, .val (.long p1), .second, .val (.long p2), .second, .val (.int p3), .val (.ref b10), .val (.ref b83), .val (.int (1 : Int32)), .unset, .unset, .unset, .unset] [(.int (lcmpW p0 (0 : Int64))), (.int (0 : Int32))] t
        refine XS.ifYes X117.here hx rfl (pc0 := 85) (pc' := 92) rfl (hb hby at_85) rfl ((if0 _ _).trans (flt hc114).2.2.2) (by decide) (by decide) ?_
        show own_At p e below m T117 92 #[.val (.long p0), .second, .val (.long p1), .second, .val (.long p2), .second, .val (.int p3), .val (.ref b10), .val (.ref b83), .val (.int (1 : Int32)), .unset, .unset, .unset, .unset] [(.int (0 : Int32))] t
        refine XS.iconst X117.here hx rfl (hb hby at_92) ?_
        show own_At p e below m T117 93 #[.val (.long p0), .second, .val (.long p1), .second, .val (.long p2), .second, .val (.int p3), .val (.ref b10), .val (.ref b83), .val (.int (1 : Int32)), .unset, .unset, .unset, .unset] [(.int (0 : Int32)), (.int (0 : Int32))] t
        refine XS.icmpNo X117.here hx rfl (hb hby at_93) rfl (teq (by decide : (0 : Int32) = (0 : Int32))).2 ?_
        show own_At p e below m T117 96 #[.val (.long p0), .second, .val (.long p1), .second, .val (.long p2), .second, .val (.int p3), .val (.ref b10), .val (.ref b83), .val (.int (1 : Int32)), .unset, .unset, .unset, .unset] [] t
        refine XS.iconst X117.here hx rfl (hb hby at_96) ?_
        show own_At p e below m T117 97 #[.val (.long p0), .second, .val (.long p1), .second, .val (.long p2), .second, .val (.int p3), .val (.ref b10), .val (.ref b83), .val (.int (1 : Int32)), .unset, .unset, .unset, .unset] [(.int (1 : Int32))] t
        refine XS.goto X117.here hx rfl (pc0 := 97) (pc' := 101) rfl (hb hby at_97) (by decide) (by decide) ?_
        show own_At p e below m T117 101 #[.val (.long p0), .second, .val (.long p1), .second, .val (.long p2), .second, .val (.int p3), .val (.ref b10), .val (.ref b83), .val (.int (1 : Int32)), .unset, .unset, .unset, .unset] [(.int (1 : Int32))] t
        refine XS.istore X117.here hx rfl (hb hby at_101) rfl (l' := #[.val (.long p0), .second, .val (.long p1), .second, .val (.long p2), .second, .val (.int p3), .val (.ref b10), .val (.ref b83), .val (.int (1 : Int32)), .val (.int (1 : Int32)), .unset, .unset, .unset]) rfl ?_
        show own_At p e below m T117 103 #[.val (.long p0), .second, .val (.long p1), .second, .val (.long p2), .second, .val (.int p3), .val (.ref b10), .val (.ref b83), .val (.int (1 : Int32)), .val (.int (1 : Int32)), .unset, .unset, .unset] [] t
        exact k
      exact J86 _ _  X117 hp117 N117 k118
set_option maxRecDepth 65536 in
set_option maxHeartbeats 40000000 in
theorem comes_1 {Post : Tables → Env → Array Value → State → Outcome → State → Prop} (hpost : ∀ tb e args s v u, (limb_1_1.after args s (.returned v) u = true ∧ limb_1_2.after args s (.returned v) u = true ∧ True) → FrameEnd s (.returned v) u (Jvm.fieldLocs frame_1_writes args s ++ Jvm.arrayLocs frame_1_arrays args s ++ Jvm.staticLocs frame_1_statics s) 24 128 → Post tb e args s (.returned v) u) :
    ArmFor flags0 classFile x code maxLocals ret World_1 tables_1 room_1 Calls_1 rest_1 Pre_1 Post := by
  intro l hfl _ _ p e ha hc hk s m args below hf hA hF happ hP
  obtain ⟨hcalls, hrest, hpre⟩ := hP
  obtain ⟨-, -, -, hnamed, -, -, -, hat⟩ := (Spec.applies_iff hf).mp happ
  obtain ⟨hg, hn⟩ := and_e (Cond.before_iff.mp (show (Jvm.Cond.and given_1 narrow_1).before args s = true from hpre))
  obtain ⟨g0a, g0b⟩ := and_e hg
  obtain ⟨g1a, g1b⟩ := and_e g0b
  obtain ⟨g2a, g2b⟩ := and_e g1b
  obtain ⟨g3a, g3b⟩ := and_e g2b
  obtain ⟨w0, w1, w2, w3, rfl⟩ : ∃ w0 w1 w2 w3 : Value, args = #[w0, w1, w2, w3] := by
    have hs : args.size = 4 := by simpa [Cond.value, given_1] using g0a
    obtain ⟨L⟩ := args
    match L, hs with
    | [w0, w1, w2, w3], _ => exact ⟨w0, w1, w2, w3, rfl⟩
  have hw := fun d (hd : d ∈ tables_1) => atoms_spec (ws := Jvm.Cond.code x code maxLocals ret :: tables_1) hat d (List.mem_cons_of_mem _ hd)
  have hfit : Fit s := fun {y c} hc i hi => by
    obtain ⟨ha, rfl⟩ := Array.getElem?_eq_some_iff.mp hc
    have q := List.all_eq_true.mp ((Array.all_eq_true_iff_forall_mem.mp hF) _ (Array.getElem_mem ha)) i (List.mem_range.mpr hi)
    simpa [Array.getElem?_eq_getElem hi] using q
  obtain ⟨hsets, hown0⟩ := atoms_of _ (rest_1_c_eq ▸ (show rest_1_c.before _ s = true from hrest))
  obtain ⟨i0, ei0⟩ := isL_v g1a
  obtain rfl : w0 = (.long i0) := Option.some.inj ei0
  obtain ⟨i1, ei1⟩ := isL_v g2a
  obtain rfl : w1 = (.long i1) := Option.some.inj ei1
  obtain ⟨i2, ei2⟩ := isL_v g3a
  obtain rfl : w2 = (.long i2) := Option.some.inj ei2
  obtain ⟨i3, ei3⟩ := is_v g3b
  obtain rfl : w3 = (.int i3) := Option.some.inj ei3
  obtain ⟨a_EMPTY_ELEMENTDATA, v_a_EMPTY_ELEMENTDATA⟩ := arr_v (Cond.before_iff.mp (hsets _ (List.mem_of_getElem? (i := 3) rfl)))
  have S_EMPTY_ELEMENTDATA := Sta.start v_a_EMPTY_ELEMENTDATA (Or.inr ⟨(own_w hw 2 rfl), hsets _ (List.mem_of_getElem? (i := 0) rfl)⟩)
  have E_EMPTY_ELEMENTDATA := Exa.start v_a_EMPTY_ELEMENTDATA (Cond.before_iff.mp (hsets _ (List.mem_of_getElem? (i := 4) rfl)))
  obtain ⟨a_DEFAULTCAPACITY_EMPTY_ELEMENTDATA, v_a_DEFAULTCAPACITY_EMPTY_ELEMENTDATA⟩ := arr_v (Cond.before_iff.mp (hsets _ (List.mem_of_getElem? (i := 6) rfl)))
  have S_DEFAULTCAPACITY_EMPTY_ELEMENTDATA := Sta.start v_a_DEFAULTCAPACITY_EMPTY_ELEMENTDATA (Or.inr ⟨(own_w hw 2 rfl), hsets _ (List.mem_of_getElem? (i := 2) rfl)⟩)
  have E_DEFAULTCAPACITY_EMPTY_ELEMENTDATA := Exa.start v_a_DEFAULTCAPACITY_EMPTY_ELEMENTDATA (Cond.before_iff.mp (hsets _ (List.mem_of_getElem? (i := 7) rfl)))
  obtain ⟨a_cache, v_a_cache⟩ := arr_v (Cond.before_iff.mp (hsets _ (List.mem_of_getElem? (i := 11) rfl)))
  have S_cache := Sta.start v_a_cache (Or.inr ⟨(own_w hw 33 rfl), hsets _ (List.mem_of_getElem? (i := 9) rfl)⟩)
  have E_cache := Exa.start v_a_cache (Cond.before_iff.mp (hsets _ (List.mem_of_getElem? (i := 12) rfl)))
  obtain ⟨a_TRUE, v_a_TRUE⟩ := exa_v (Cond.before_iff.mp (hsets _ (List.mem_of_getElem? (i := 17) rfl)))
  have S_TRUE := Sta.start v_a_TRUE (Or.inr ⟨(own_w hw 110 rfl), hsets _ (List.mem_of_getElem? (i := 15) rfl)⟩)
  have E_TRUE := Exa.start v_a_TRUE (Cond.before_iff.mp (hsets _ (List.mem_of_getElem? (i := 17) rfl)))
  have F_TRUE_value := Fld.start ((fld_at v_a_TRUE).symm.trans (own_eqI (Cond.before_iff.mp (hsets _ (List.mem_of_getElem? (i := 18) rfl)))))
  obtain ⟨a_MILLISECONDS, v_a_MILLISECONDS⟩ := exa_v (Cond.before_iff.mp (hsets _ (List.mem_of_getElem? (i := 21) rfl)))
  have S_MILLISECONDS := Sta.start v_a_MILLISECONDS (Or.inr ⟨(own_w hw 152 rfl), hsets _ (List.mem_of_getElem? (i := 19) rfl)⟩)
  have E_MILLISECONDS := Exa.start v_a_MILLISECONDS (Cond.before_iff.mp (hsets _ (List.mem_of_getElem? (i := 21) rfl)))
  obtain ⟨a_MILLISECONDS_name, v_a_MILLISECONDS_name⟩ := exa_v (Cond.before_iff.mp (hsets _ (List.mem_of_getElem? (i := 22) rfl)))
  have F_MILLISECONDS_name := Fld.start ((fld_at v_a_MILLISECONDS).symm.trans v_a_MILLISECONDS_name)
  have E_MILLISECONDS_name := Exa.start v_a_MILLISECONDS_name (Cond.before_iff.mp (hsets _ (List.mem_of_getElem? (i := 22) rfl)))
  have F_MILLISECONDS_ordinal := Fld.start ((fld_at v_a_MILLISECONDS).symm.trans (own_eqI (Cond.before_iff.mp (hsets _ (List.mem_of_getElem? (i := 23) rfl)))))
  have F_MILLISECONDS_scale := Fld.start ((fld_at v_a_MILLISECONDS).symm.trans (own_eqJ (Cond.before_iff.mp (hsets _ (List.mem_of_getElem? (i := 24) rfl)))))
  have F_MILLISECONDS_maxNanos := Fld.start ((fld_at v_a_MILLISECONDS).symm.trans (own_eqJ (Cond.before_iff.mp (hsets _ (List.mem_of_getElem? (i := 25) rfl)))))
  have F_MILLISECONDS_microRatio := Fld.start ((fld_at v_a_MILLISECONDS).symm.trans (own_eqJ (Cond.before_iff.mp (hsets _ (List.mem_of_getElem? (i := 26) rfl)))))
  have F_MILLISECONDS_maxMicros := Fld.start ((fld_at v_a_MILLISECONDS).symm.trans (own_eqJ (Cond.before_iff.mp (hsets _ (List.mem_of_getElem? (i := 27) rfl)))))
  have F_MILLISECONDS_milliRatio := Fld.start ((fld_at v_a_MILLISECONDS).symm.trans (own_eqI (Cond.before_iff.mp (hsets _ (List.mem_of_getElem? (i := 28) rfl)))))
  have F_MILLISECONDS_maxMillis := Fld.start ((fld_at v_a_MILLISECONDS).symm.trans (own_eqJ (Cond.before_iff.mp (hsets _ (List.mem_of_getElem? (i := 29) rfl)))))
  have F_MILLISECONDS_secRatio := Fld.start ((fld_at v_a_MILLISECONDS).symm.trans (own_eqI (Cond.before_iff.mp (hsets _ (List.mem_of_getElem? (i := 30) rfl)))))
  have F_MILLISECONDS_maxSecs := Fld.start ((fld_at v_a_MILLISECONDS).symm.trans (own_eqJ (Cond.before_iff.mp (hsets _ (List.mem_of_getElem? (i := 31) rfl)))))
  obtain ⟨a_FALSE, v_a_FALSE⟩ := exa_v (Cond.before_iff.mp (hsets _ (List.mem_of_getElem? (i := 34) rfl)))
  have S_FALSE := Sta.start v_a_FALSE (Or.inr ⟨(own_w hw 110 rfl), hsets _ (List.mem_of_getElem? (i := 32) rfl)⟩)
  have E_FALSE := Exa.start v_a_FALSE (Cond.before_iff.mp (hsets _ (List.mem_of_getElem? (i := 34) rfl)))
  have F_FALSE_value := Fld.start ((fld_at v_a_FALSE).symm.trans (own_eqI (Cond.before_iff.mp (hsets _ (List.mem_of_getElem? (i := 35) rfl)))))
  obtain ⟨cc_a_EMPTY_ELEMENTDATA, cA_a_EMPTY_ELEMENTDATA⟩ := Arr.start v_a_EMPTY_ELEMENTDATA (Cond.before_iff.mp (hsets _ (List.mem_of_getElem? (i := 3) rfl)))
  have C_EMPTY_ELEMENTDATA := own_Cln.start (dv := .null) (vs := []) hfit cA_a_EMPTY_ELEMENTDATA (own_len v_a_EMPTY_ELEMENTDATA cA_a_EMPTY_ELEMENTDATA (Cond.before_iff.mp (hsets _ (List.mem_of_getElem? (i := 5) rfl)))) (by decide) rfl trivial
  obtain ⟨cc_a_DEFAULTCAPACITY_EMPTY_ELEMENTDATA, cA_a_DEFAULTCAPACITY_EMPTY_ELEMENTDATA⟩ := Arr.start v_a_DEFAULTCAPACITY_EMPTY_ELEMENTDATA (Cond.before_iff.mp (hsets _ (List.mem_of_getElem? (i := 6) rfl)))
  have C_DEFAULTCAPACITY_EMPTY_ELEMENTDATA := own_Cln.start (dv := .null) (vs := []) hfit cA_a_DEFAULTCAPACITY_EMPTY_ELEMENTDATA (own_len v_a_DEFAULTCAPACITY_EMPTY_ELEMENTDATA cA_a_DEFAULTCAPACITY_EMPTY_ELEMENTDATA (Cond.before_iff.mp (hsets _ (List.mem_of_getElem? (i := 8) rfl)))) (by decide) rfl trivial
  obtain ⟨cl_cache, cA_cache⟩ := Arr.start v_a_cache (Cond.before_iff.mp (hsets _ (List.mem_of_getElem? (i := 11) rfl)))
  have B_cache := Bxs.start (val := fun j => .long (j - (128 : Int32)).toInt64) (fun _ => v_a_cache) cA_cache (own_len v_a_cache cA_cache (Cond.before_iff.mp (hsets _ (List.mem_of_getElem? (i := 13) rfl)))).1 (own_len v_a_cache cA_cache (Cond.before_iff.mp (hsets _ (List.mem_of_getElem? (i := 13) rfl)))).2 (by decide) (Cond.before_iff.mp (hsets _ (List.mem_of_getElem? (i := 14) rfl))) (fun X j nn hh => eqv_l (i2l_at (own_sub (idx_at nn) rfl)) hh)
  obtain ⟨n, o, h1, h2, h3, _, L, rfl, ⟨rfl, N⟩, hq⟩ := rm_law l s _ hw tables_1 i0 i1 i2 i3 a_EMPTY_ELEMENTDATA a_DEFAULTCAPACITY_EMPTY_ELEMENTDATA a_cache a_TRUE a_MILLISECONDS a_MILLISECONDS_name a_FALSE cl_cache s.heap s.heap.size (Old.start s) ⟨S_EMPTY_ELEMENTDATA, E_EMPTY_ELEMENTDATA, S_DEFAULTCAPACITY_EMPTY_ELEMENTDATA, E_DEFAULTCAPACITY_EMPTY_ELEMENTDATA, S_cache, E_cache, S_TRUE, E_TRUE, F_TRUE_value, S_MILLISECONDS, E_MILLISECONDS, F_MILLISECONDS_name, E_MILLISECONDS_name, F_MILLISECONDS_ordinal, F_MILLISECONDS_scale, F_MILLISECONDS_maxNanos, F_MILLISECONDS_microRatio, F_MILLISECONDS_maxMicros, F_MILLISECONDS_milliRatio, F_MILLISECONDS_maxMillis, F_MILLISECONDS_secRatio, F_MILLISECONDS_maxSecs, S_FALSE, E_FALSE, F_FALSE_value, C_EMPTY_ELEMENTDATA, C_DEFAULTCAPACITY_EMPTY_ELEMENTDATA, B_cache⟩  p e ha hc hk s m _ below hf ((Spec.applies_iff_loose hf).mp happ).1 ⟨rfl, State.Warmed39.refl s, rfl⟩ trivial
  refine ⟨n, _, h1, h2, h3, hpost _ _ _ _ _ _ ⟨Cond.after_iff.mpr rfl, Cond.after_iff.mpr (eq_i res_at (Term.int_eval (1)) rfl), trivial⟩ ⟨hq.1, hq.2.1, (hq.2.2.sift fun y hy => Or.inr (N y hy)).mono (by decide) (by decide)⟩⟩
theorem main_1_1 : Claimed_1_1 := comes_1 fun _ _ _ _ _ _ h hF => ⟨h.1, hF⟩
theorem main_1_2 : Claimed_1_2 := comes_1 fun _ _ _ _ _ _ h hF => ⟨h.2.1, hF⟩
end Jvm.Pilot.@@N@@
namespace Jvm.Pilot.@@N@@
open Jvm Jvm.ClassFile Sem Op Lib Jvm.Free Jvm.Stand Jvm.Pilot.@@N@@.Jvm.D
/-! MADE BY PROGRAM (witnessworld.py) out of the Statement's table words and the real class files: 33 classes; the members and pool entries that the words name. The judged class is class 1, her method 2. -/
namespace start1
open Jvm.ClassFile
def u (s : String) : CpInfo := .utf8 (stringToUtf16 s)
/-- a pool by its gaps: so many unusable entries, then the entry; so many at the end -/
def gap : Nat → List CpInfo → List CpInfo
  | 0, r => r
  | n + 1, r => .unusable :: gap n r
def poolList (es : List (Nat × CpInfo)) (last : Nat) : List CpInfo := es.foldr (fun e r => gap e.1 (e.2 :: r)) (gap last [])
def pool (es : List (Nat × CpInfo)) (last : Nat) : Array CpInfo := ⟨poolList es last⟩
def fileOf (pool : Array CpInfo) (this : Nat) (attrs : Array Attribute := #[]) (ms : Array MethodInfo := #[]) (fl : Nat := 33) (sup : Nat := 0) (ifs : Array Nat := #[]) (fds : Array FieldInfo := #[]) : ClassFile where
  minorVersion := 0
  majorVersion := 65
  constantPool := pool
  accessFlags := fl
  thisClass := this
  superClass := sup
  interfaces := ifs
  fields := fds
  methods := ms
  attributes := attrs
def plain (name : String) (sup : Option ClassId) : Class where
  name := name
  kind := .ordinary
  loader := none
  accessFlags := 33
  super := sup
  interfaces := #[]
  cf := none
  fields := #[]
  methods := #[]
  instanceTypes := #[]
  staticTypes := #[]
  resolved := #[]
  callSites := []
  init := .initialized
  statics := none
  mirror := none

def pool0 : Array CpInfo := pool [(5, u "<init>"), (0, u "()V"), (1, .class_ 10), (1, u "java/lang/Object")] 113

def k0c0 : Code := { maxStack := 0, maxLocals := 1, code := object_method_1_code, exceptionTable := #[], attributes := #[] }
def k0m0 : Method := { name := "<init>", desc := "()V", sig := { parameters := [], returnType := none }, accessFlags := 1, code := some k0c0 }
/-- java/lang/Object -/
def k0 : Class := { plain "java/lang/Object" none with
  accessFlags := 33
  interfaces := #[]
  cf := some (fileOf pool0 8 #[] #[{ accessFlags := 1, nameIndex := 5, descriptorIndex := 6, attributes := #[] }] 33 0 #[] #[])
  fields := #[]
  methods := #[k0m0]
  instanceTypes := #[]
  staticTypes := #[]
  resolved := Array.replicate 124 none
  statics := none }

def pool1 : Array CpInfo := pool [(2, .class_ 4), (0, .nameAndType 5 6), (0, u "java/lang/Object"), (0, u "<init>"), (0, u "()V"), (0, .class_ 8), (0, u "java/lang/Long"), (0, .long 9223372036854775807), (1, .long 9223372036854), (1, .long 1000000), (1, .class_ 16), (0, u "java/util/ArrayList"), (0, .methodref 15 3), (0, .methodref 7 19), (0, .nameAndType 20 21), (0, u "valueOf"), (0, u "(J)Ljava/lang/Long;"), (0, .interfaceMethodref 23 24), (0, .class_ 25), (0, .nameAndType 26 27), (0, u "java/util/List"), (0, u "add"), (0, u "(Ljava/lang/Object;)Z"), (0, .methodref 29 30), (0, .class_ 31), (0, .nameAndType 32 33), (0, u "com/example/plus1/plus1/Take"), (0, u "of"), (0, u "(Ljava/util/List;)Lcom/example/plus1/plus1/Take;"), (0, .methodref 29 35), (0, .nameAndType 36 37), (0, u "holds"), (0, u "()J"), (0, .methodref 29 39), (0, .nameAndType 40 41), (0, u "taken"), (0, u "()Z"), (0, .methodref 29 43), (0, .nameAndType 44 45), (0, u "heldBefore"), (0, u "()Ljava/lang/Boolean;"), (0, .methodref 47 48), (0, .class_ 49), (0, .nameAndType 50 41), (0, u "java/lang/Boolean"), (0, u "booleanValue"), (0, .methodref 29 52), (0, .nameAndType 53 37), (0, u "retryNanos"), (0, .methodref 55 56), (0, .class_ 57), (0, .nameAndType 58 59), (0, u "com/example/plus1/plus1/TakeOf189PinLaw"), (0, u "expectedNanos"), (0, u "(J)J"), (3, u "law"), (0, u "(JJJI)Z")] 2

def k1m0 : Method := { name := "<init>", desc := "()V", sig := { parameters := [], returnType := none }, accessFlags := 1, code := none }
def k1c1 : Code := { maxStack := 4, maxLocals := 4, code := method_2_code, exceptionTable := #[], attributes := #[] }
def k1m1 : Method := { name := "expectedNanos", desc := "(J)J", sig := { parameters := [.long], returnType := some .long }, accessFlags := 10, code := some k1c1 }
def k1c2 : Code := { maxStack := 5, maxLocals := 14, code := code, exceptionTable := #[], attributes := #[] }
def k1m2 : Method := { name := "law", desc := "(JJJI)Z", sig := { parameters := [.long, .long, .long, .int], returnType := some .boolean }, accessFlags := 9, code := some k1c2 }
/-- com/example/plus1/plus1/TakeOf189PinLaw -/
def k1 : Class := { plain "com/example/plus1/plus1/TakeOf189PinLaw" (some 0) with
  accessFlags := 49
  interfaces := #[]
  cf := some (fileOf pool1 55 #[] #[{ accessFlags := 1, nameIndex := 5, descriptorIndex := 6, attributes := #[] }, { accessFlags := 10, nameIndex := 58, descriptorIndex := 59, attributes := #[] }, { accessFlags := 9, nameIndex := 63, descriptorIndex := 64, attributes := #[] }] 49 2 #[] #[])
  fields := #[]
  methods := #[k1m0, k1m1, k1m2]
  instanceTypes := #[]
  staticTypes := #[]
  resolved := Array.replicate 67 none
  statics := none }

def pool2 : Array CpInfo := pool [(8, .class_ 10), (1, u "java/lang/Iterable"), (24, .class_ 36), (0, u "java/lang/Object")] 25

/-- java/lang/Iterable -/
def k2 : Class := { plain "java/lang/Iterable" (some 0) with
  accessFlags := 1537
  interfaces := #[]
  cf := some (fileOf pool2 8 #[] #[] 1537 35 #[] #[])
  fields := #[]
  methods := #[]
  instanceTypes := #[]
  staticTypes := #[]
  resolved := Array.replicate 62 none
  statics := none }

def pool3 : Array CpInfo := pool [(10, .class_ 12), (1, u "java/util/Collection"), (47, .class_ 61), (0, u "java/lang/Object"), (0, .class_ 63), (0, u "java/lang/Iterable")] 51

/-- java/util/Collection -/
def k3 : Class := { plain "java/util/Collection" (some 0) with
  accessFlags := 1537
  interfaces := #[2]
  cf := some (fileOf pool3 10 #[] #[] 1537 60 #[62] #[])
  fields := #[]
  methods := #[]
  instanceTypes := #[]
  staticTypes := #[]
  resolved := Array.replicate 115 none
  statics := none }

def pool4 : Array CpInfo := pool [(1, .methodref 2 3), (0, .class_ 4), (0, .nameAndType 5 6), (0, u "java/lang/Object"), (0, u "<init>"), (0, u "()V"), (1, .class_ 10), (1, u "java/util/AbstractCollection"), (66, .class_ 78), (0, u "java/util/Collection")] 81

def k4c0 : Code := { maxStack := 1, maxLocals := 1, code := jdk_22_method_1_code, exceptionTable := #[], attributes := #[] }
def k4m0 : Method := { name := "<init>", desc := "()V", sig := { parameters := [], returnType := none }, accessFlags := 4, code := some k4c0 }
/-- java/util/AbstractCollection -/
def k4 : Class := { plain "java/util/AbstractCollection" (some 0) with
  accessFlags := 1057
  interfaces := #[3]
  cf := some (fileOf pool4 8 #[] #[{ accessFlags := 4, nameIndex := 5, descriptorIndex := 6, attributes := #[] }] 1057 2 #[77] #[])
  fields := #[]
  methods := #[k4m0]
  instanceTypes := #[]
  staticTypes := #[]
  resolved := Array.replicate 160 none
  statics := none }

def pool5 : Array CpInfo := pool [(8, .class_ 10), (1, u "java/util/SequencedCollection"), (15, .class_ 27), (0, u "java/lang/Object"), (0, .class_ 29), (0, u "java/util/Collection")] 27

/-- java/util/SequencedCollection -/
def k5 : Class := { plain "java/util/SequencedCollection" (some 0) with
  accessFlags := 1537
  interfaces := #[3]
  cf := some (fileOf pool5 8 #[] #[] 1537 26 #[28] #[])
  fields := #[]
  methods := #[]
  instanceTypes := #[]
  staticTypes := #[]
  resolved := Array.replicate 57 none
  statics := none }

def pool6 : Array CpInfo := pool [(8, .class_ 10), (1, u "java/util/List"), (49, u "add"), (3, u "(Ljava/lang/Object;)Z"), (10, u "get"), (0, u "(I)Ljava/lang/Object;"), (26, .class_ 104), (0, u "java/lang/Object"), (15, .class_ 121), (0, u "java/util/SequencedCollection")] 129

def k6m0 : Method := { name := "add", desc := "(Ljava/lang/Object;)Z", sig := { parameters := [(.object "java/lang/Object")], returnType := some .boolean }, accessFlags := 1025, code := none }
def k6m1 : Method := { name := "get", desc := "(I)Ljava/lang/Object;", sig := { parameters := [.int], returnType := some (.object "java/lang/Object") }, accessFlags := 1025, code := none }
/-- java/util/List -/
def k6 : Class := { plain "java/util/List" (some 0) with
  accessFlags := 1537
  interfaces := #[5]
  cf := some (fileOf pool6 8 #[] #[{ accessFlags := 1025, nameIndex := 60, descriptorIndex := 64, attributes := #[] }, { accessFlags := 1025, nameIndex := 75, descriptorIndex := 76, attributes := #[] }] 1537 103 #[120] #[])
  fields := #[]
  methods := #[k6m0, k6m1]
  instanceTypes := #[]
  staticTypes := #[]
  resolved := Array.replicate 251 none
  statics := none }

def pool7 : Array CpInfo := pool [(1, .methodref 2 3), (0, .class_ 4), (0, .nameAndType 5 6), (0, u "java/util/AbstractCollection"), (0, u "<init>"), (0, u "()V"), (0, .fieldref 8 9), (0, .class_ 10), (0, .nameAndType 11 12), (0, u "java/util/AbstractList"), (0, u "modCount"), (0, u "I"), (64, .class_ 78), (0, u "java/util/AbstractList$Itr"), (3, .class_ 83), (0, u "java/util/AbstractList$ListItr"), (9, .class_ 94), (0, u "java/util/AbstractList$RandomAccessSubList"), (3, .class_ 99), (0, u "java/util/AbstractList$SubList"), (33, .class_ 134), (0, u "java/util/List"), (73, .class_ 209), (0, u "java/util/AbstractList$SubList$1"), (0, .class_ 211), (0, u "java/util/AbstractList$RandomAccessSpliterator")] 6

def k7c0 : Code := { maxStack := 2, maxLocals := 1, code := jdk_39_method_1_code, exceptionTable := #[], attributes := #[] }
def k7m0 : Method := { name := "<init>", desc := "()V", sig := { parameters := [], returnType := none }, accessFlags := 4, code := some k7c0 }
/-- java/util/AbstractList -/
def k7 : Class := { plain "java/util/AbstractList" (some 4) with
  accessFlags := 1057
  interfaces := #[6]
  cf := some (fileOf pool7 8 #[.nestMembers #[93, 98, 208, 210, 82, 77]] #[{ accessFlags := 4, nameIndex := 5, descriptorIndex := 6, attributes := #[] }] 1057 2 #[133] #[{ accessFlags := 132, nameIndex := 11, descriptorIndex := 12, attributes := #[] }])
  fields := #[{ name := "modCount", type := .int, accessFlags := 132, slot := 0, constantValue := 0 }]
  methods := #[k7m0]
  instanceTypes := #[.int]
  staticTypes := #[]
  resolved := Array.replicate 218 none
  statics := none }

def pool8 : Array CpInfo := pool [(1, .class_ 2), (0, u "java/util/RandomAccess"), (0, .class_ 4), (0, u "java/lang/Object")] 2

/-- java/util/RandomAccess -/
def k8 : Class := { plain "java/util/RandomAccess" (some 0) with
  accessFlags := 1537
  interfaces := #[]
  cf := some (fileOf pool8 1 #[] #[] 1537 3 #[] #[])
  fields := #[]
  methods := #[]
  instanceTypes := #[]
  staticTypes := #[]
  resolved := Array.replicate 7 none
  statics := none }

def pool9 : Array CpInfo := pool [(1, .class_ 2), (0, u "java/lang/Cloneable"), (0, .class_ 4), (0, u "java/lang/Object")] 2

/-- java/lang/Cloneable -/
def k9 : Class := { plain "java/lang/Cloneable" (some 0) with
  accessFlags := 1537
  interfaces := #[]
  cf := some (fileOf pool9 1 #[] #[] 1537 3 #[] #[])
  fields := #[]
  methods := #[]
  instanceTypes := #[]
  staticTypes := #[]
  resolved := Array.replicate 7 none
  statics := none }

def pool10 : Array CpInfo := pool [(1, .class_ 2), (0, u "java/io/Serializable"), (0, .class_ 4), (0, u "java/lang/Object")] 2

/-- java/io/Serializable -/
def k10 : Class := { plain "java/io/Serializable" (some 0) with
  accessFlags := 1537
  interfaces := #[]
  cf := some (fileOf pool10 1 #[] #[] 1537 3 #[] #[])
  fields := #[]
  methods := #[]
  instanceTypes := #[]
  staticTypes := #[]
  resolved := Array.replicate 7 none
  statics := none }

def pool11 : Array CpInfo := pool [(1, .methodref 2 3), (0, .class_ 4), (0, .nameAndType 5 6), (0, u "java/util/AbstractList"), (0, u "<init>"), (0, u "()V"), (0, .class_ 8), (0, u "java/lang/Object"), (0, .fieldref 10 11), (0, .class_ 12), (0, .nameAndType 13 14), (0, u "java/util/ArrayList"), (0, u "elementData"), (0, u "[Ljava/lang/Object;"), (2, u "EMPTY_ELEMENTDATA"), (21, .fieldref 10 40), (0, .nameAndType 41 14), (0, u "DEFAULTCAPACITY_EMPTY_ELEMENTDATA"), (5, u "()[Ljava/lang/Object;"), (0, .fieldref 10 49), (0, .nameAndType 50 51), (0, u "size"), (0, u "I"), (11, .fieldref 10 64), (0, .nameAndType 65 51), (0, u "modCount"), (3, .methodref 10 70), (0, .nameAndType 71 72), (0, u "grow"), (0, u "(I)[Ljava/lang/Object;"), (6, .methodref 80 81), (0, .class_ 82), (0, .nameAndType 83 84), (0, u "java/lang/Math"), (0, u "max"), (0, u "(II)I"), (11, u "(Ljava/lang/Object;)Z"), (21, .methodref 119 120), (0, .class_ 121), (0, .nameAndType 122 84), (0, u "java/util/Objects"), (0, u "checkIndex"), (0, .methodref 10 124), (0, .nameAndType 13 125), (0, u "(I)Ljava/lang/Object;"), (3, .methodref 10 130), (0, .nameAndType 71 47), (0, .methodref 10 132), (0, .nameAndType 133 134), (0, u "add"), (0, u "(Ljava/lang/Object;[Ljava/lang/Object;I)V"), (13, .class_ 149), (0, u "java/util/List"), (112, .class_ 263), (0, u "java/util/ArrayList$ListItr"), (3, .class_ 268), (0, u "java/util/ArrayList$Itr"), (7, .class_ 277), (0, u "java/util/ArrayList$SubList"), (12, .class_ 291), (0, u "java/util/ArrayList$ArrayListSpliterator"), (37, .class_ 330), (0, u "java/util/RandomAccess"), (0, .class_ 332), (0, u "java/lang/Cloneable"), (0, .class_ 334), (0, u "java/io/Serializable"), (0, u "serialVersionUID"), (0, u "J"), (3, u "DEFAULT_CAPACITY"), (40, u "get"), (118, .class_ 501), (0, u "java/util/ArrayList$SubList$2"), (0, .class_ 503), (0, u "java/util/ArrayList$SubList$1")] 5

def k11c0 : Code := { maxStack := 2, maxLocals := 1, code := jdk_38_method_2_code, exceptionTable := #[], attributes := #[] }
def k11m0 : Method := { name := "<init>", desc := "()V", sig := { parameters := [], returnType := none }, accessFlags := 1, code := some k11c0 }
def k11c1 : Code := { maxStack := 4, maxLocals := 4, code := jdk_38_method_6_code, exceptionTable := #[], attributes := #[] }
def k11m1 : Method := { name := "grow", desc := "(I)[Ljava/lang/Object;", sig := { parameters := [.int], returnType := some (.array (.object "java/lang/Object")) }, accessFlags := 2, code := some k11c1 }
def k11c2 : Code := { maxStack := 3, maxLocals := 1, code := jdk_38_method_7_code, exceptionTable := #[], attributes := #[] }
def k11m2 : Method := { name := "grow", desc := "()[Ljava/lang/Object;", sig := { parameters := [], returnType := some (.array (.object "java/lang/Object")) }, accessFlags := 2, code := some k11c2 }
def k11c3 : Code := { maxStack := 2, maxLocals := 2, code := jdk_38_method_18_code, exceptionTable := #[], attributes := #[] }
def k11m3 : Method := { name := "elementData", desc := "(I)Ljava/lang/Object;", sig := { parameters := [.int], returnType := some (.object "java/lang/Object") }, accessFlags := 0, code := some k11c3 }
def k11c4 : Code := { maxStack := 2, maxLocals := 2, code := jdk_38_method_20_code, exceptionTable := #[], attributes := #[] }
def k11m4 : Method := { name := "get", desc := "(I)Ljava/lang/Object;", sig := { parameters := [.int], returnType := some (.object "java/lang/Object") }, accessFlags := 1, code := some k11c4 }
def k11c5 : Code := { maxStack := 3, maxLocals := 4, code := jdk_38_method_24_code, exceptionTable := #[], attributes := #[] }
def k11m5 : Method := { name := "add", desc := "(Ljava/lang/Object;[Ljava/lang/Object;I)V", sig := { parameters := [(.object "java/lang/Object"), (.array (.object "java/lang/Object")), .int], returnType := none }, accessFlags := 2, code := some k11c5 }
def k11c6 : Code := { maxStack := 4, maxLocals := 2, code := jdk_38_method_25_code, exceptionTable := #[], attributes := #[] }
def k11m6 : Method := { name := "add", desc := "(Ljava/lang/Object;)Z", sig := { parameters := [(.object "java/lang/Object")], returnType := some .boolean }, accessFlags := 1, code := some k11c6 }
/-- java/util/ArrayList -/
def k11 : Class := { plain "java/util/ArrayList" (some 7) with
  accessFlags := 33
  interfaces := #[6, 8, 9, 10]
  cf := some (fileOf pool11 10 #[.nestMembers #[290, 276, 500, 502, 262, 267]] #[{ accessFlags := 1, nameIndex := 5, descriptorIndex := 6, attributes := #[] }, { accessFlags := 2, nameIndex := 71, descriptorIndex := 72, attributes := #[] }, { accessFlags := 2, nameIndex := 71, descriptorIndex := 47, attributes := #[] }, { accessFlags := 0, nameIndex := 13, descriptorIndex := 125, attributes := #[] }, { accessFlags := 1, nameIndex := 381, descriptorIndex := 125, attributes := #[] }, { accessFlags := 2, nameIndex := 133, descriptorIndex := 134, attributes := #[] }, { accessFlags := 1, nameIndex := 133, descriptorIndex := 96, attributes := #[] }] 33 2 #[148, 329, 331, 333] #[{ accessFlags := 26, nameIndex := 335, descriptorIndex := 336, attributes := #[] }, { accessFlags := 26, nameIndex := 340, descriptorIndex := 51, attributes := #[] }, { accessFlags := 26, nameIndex := 17, descriptorIndex := 14, attributes := #[] }, { accessFlags := 26, nameIndex := 41, descriptorIndex := 14, attributes := #[] }, { accessFlags := 128, nameIndex := 13, descriptorIndex := 14, attributes := #[] }, { accessFlags := 2, nameIndex := 50, descriptorIndex := 51, attributes := #[] }])
  fields := #[{ name := "serialVersionUID", type := .long, accessFlags := 26, slot := 0, constantValue := 0 }, { name := "DEFAULT_CAPACITY", type := .int, accessFlags := 26, slot := 1, constantValue := 0 }, { name := "EMPTY_ELEMENTDATA", type := (.array (.object "java/lang/Object")), accessFlags := 26, slot := 2, constantValue := 0 }, { name := "DEFAULTCAPACITY_EMPTY_ELEMENTDATA", type := (.array (.object "java/lang/Object")), accessFlags := 26, slot := 3, constantValue := 0 }, { name := "elementData", type := (.array (.object "java/lang/Object")), accessFlags := 128, slot := 1, constantValue := 0 }, { name := "size", type := .int, accessFlags := 2, slot := 2, constantValue := 0 }]
  methods := #[k11m0, k11m1, k11m2, k11m3, k11m4, k11m5, k11m6]
  instanceTypes := #[.int, (.array (.object "java/lang/Object")), .int]
  staticTypes := #[.long, .int, (.array (.object "java/lang/Object")), (.array (.object "java/lang/Object"))]
  resolved := Array.replicate 509 none
  statics := some 0 }

def pool12 : Array CpInfo := pool [(1, .methodref 2 3), (0, .class_ 4), (0, .nameAndType 5 6), (0, u "java/lang/Object"), (0, u "<init>"), (0, u "()V"), (1, .class_ 10), (1, u "java/lang/Number"), (2, .class_ 14), (0, u "java/io/Serializable"), (0, u "serialVersionUID"), (0, u "J")] 20

def k12c0 : Code := { maxStack := 1, maxLocals := 1, code := jdk_18_method_1_code, exceptionTable := #[], attributes := #[] }
def k12m0 : Method := { name := "<init>", desc := "()V", sig := { parameters := [], returnType := none }, accessFlags := 1, code := some k12c0 }
/-- java/lang/Number -/
def k12 : Class := { plain "java/lang/Number" (some 0) with
  accessFlags := 1057
  interfaces := #[10]
  cf := some (fileOf pool12 8 #[] #[{ accessFlags := 1, nameIndex := 5, descriptorIndex := 6, attributes := #[] }] 1057 2 #[13] #[{ accessFlags := 26, nameIndex := 15, descriptorIndex := 16, attributes := #[] }])
  fields := #[{ name := "serialVersionUID", type := .long, accessFlags := 26, slot := 0, constantValue := 0 }]
  methods := #[k12m0]
  instanceTypes := #[]
  staticTypes := #[.long]
  resolved := Array.replicate 37 none
  statics := none }

def pool13 : Array CpInfo := pool [(1, .class_ 2), (0, u "java/lang/Comparable"), (0, .class_ 4), (0, u "java/lang/Object")] 7

/-- java/lang/Comparable -/
def k13 : Class := { plain "java/lang/Comparable" (some 0) with
  accessFlags := 1537
  interfaces := #[]
  cf := some (fileOf pool13 1 #[] #[] 1537 3 #[] #[])
  fields := #[]
  methods := #[]
  instanceTypes := #[]
  staticTypes := #[]
  resolved := Array.replicate 12 none
  statics := none }

def pool14 : Array CpInfo := pool [(1, .class_ 2), (0, u "java/lang/constant/Constable"), (0, .class_ 4), (0, u "java/lang/Object")] 6

/-- java/lang/constant/Constable -/
def k14 : Class := { plain "java/lang/constant/Constable" (some 0) with
  accessFlags := 1537
  interfaces := #[]
  cf := some (fileOf pool14 1 #[] #[] 1537 3 #[] #[])
  fields := #[]
  methods := #[]
  instanceTypes := #[]
  staticTypes := #[]
  resolved := Array.replicate 11 none
  statics := none }

def pool15 : Array CpInfo := pool [(1, .class_ 2), (0, u "java/lang/constant/ConstantDesc"), (0, .class_ 4), (0, u "java/lang/Object")] 32

/-- java/lang/constant/ConstantDesc -/
def k15 : Class := { plain "java/lang/constant/ConstantDesc" (some 0) with
  accessFlags := 1537
  interfaces := #[]
  cf := some (fileOf pool15 1 #[] #[] 1537 3 #[] #[])
  fields := #[]
  methods := #[]
  instanceTypes := #[]
  staticTypes := #[]
  resolved := Array.replicate 37 none
  statics := none }

def pool16 : Array CpInfo := pool [(1, .class_ 2), (0, u "java/lang/Long"), (55, .nameAndType 59 60), (0, u "<init>"), (0, u "()V"), (24, u "valueOf"), (143, u "(J)Ljava/lang/Long;"), (0, .long 18446744073709551488), (1, .long 127), (1, .fieldref 235 236), (0, .class_ 237), (0, .nameAndType 238 239), (0, u "java/lang/Long$LongCache"), (0, u "cache"), (0, u "[Ljava/lang/Long;"), (0, .methodref 1 241), (0, .nameAndType 59 242), (0, u "(J)V"), (27, .methodref 271 58), (0, .class_ 272), (0, u "java/lang/Number"), (0, .fieldref 1 274), (0, .nameAndType 275 276), (0, u "value"), (0, u "J"), (5, u "longValue"), (0, u "()J"), (77, u "TYPE"), (0, u "Ljava/lang/Class;"), (0, .class_ 364), (0, u "java/lang/Comparable"), (0, .class_ 366), (0, u "java/lang/constant/Constable"), (0, .class_ 368), (0, u "java/lang/constant/ConstantDesc"), (0, u "MIN_VALUE"), (1, u "MAX_VALUE"), (4, u "SIZE"), (0, u "I"), (1, u "BYTES"), (1, u "serialVersionUID")] 142

def k16c0 : Code := { maxStack := 4, maxLocals := 3, code := jdk_35_method_24_code, exceptionTable := #[], attributes := #[] }
def k16m0 : Method := { name := "valueOf", desc := "(J)Ljava/lang/Long;", sig := { parameters := [.long], returnType := some (.object "java/lang/Long") }, accessFlags := 9, code := some k16c0 }
def k16c1 : Code := { maxStack := 3, maxLocals := 3, code := jdk_35_method_26_code, exceptionTable := #[], attributes := #[] }
def k16m1 : Method := { name := "<init>", desc := "(J)V", sig := { parameters := [.long], returnType := none }, accessFlags := 1, code := some k16c1 }
def k16c2 : Code := { maxStack := 2, maxLocals := 1, code := jdk_35_method_31_code, exceptionTable := #[], attributes := #[] }
def k16m2 : Method := { name := "longValue", desc := "()J", sig := { parameters := [], returnType := some .long }, accessFlags := 1, code := some k16c2 }
/-- java/lang/Long -/
def k16 : Class := { plain "java/lang/Long" (some 12) with
  accessFlags := 49
  interfaces := #[13, 14, 15]
  cf := some (fileOf pool16 1 #[.nestMembers #[235]] #[{ accessFlags := 9, nameIndex := 85, descriptorIndex := 229, attributes := #[] }, { accessFlags := 1, nameIndex := 59, descriptorIndex := 242, attributes := #[] }, { accessFlags := 1, nameIndex := 282, descriptorIndex := 283, attributes := #[] }] 49 271 #[363, 365, 367] #[{ accessFlags := 25, nameIndex := 369, descriptorIndex := 276, attributes := #[] }, { accessFlags := 25, nameIndex := 371, descriptorIndex := 276, attributes := #[] }, { accessFlags := 25, nameIndex := 361, descriptorIndex := 362, attributes := #[] }, { accessFlags := 18, nameIndex := 275, descriptorIndex := 276, attributes := #[] }, { accessFlags := 25, nameIndex := 376, descriptorIndex := 377, attributes := #[] }, { accessFlags := 25, nameIndex := 379, descriptorIndex := 377, attributes := #[] }, { accessFlags := 26, nameIndex := 381, descriptorIndex := 276, attributes := #[] }])
  fields := #[{ name := "MIN_VALUE", type := .long, accessFlags := 25, slot := 0, constantValue := 0 }, { name := "MAX_VALUE", type := .long, accessFlags := 25, slot := 1, constantValue := 0 }, { name := "TYPE", type := (.object "java/lang/Class"), accessFlags := 25, slot := 2, constantValue := 0 }, { name := "value", type := .long, accessFlags := 18, slot := 0, constantValue := 0 }, { name := "SIZE", type := .int, accessFlags := 25, slot := 3, constantValue := 0 }, { name := "BYTES", type := .int, accessFlags := 25, slot := 4, constantValue := 0 }, { name := "serialVersionUID", type := .long, accessFlags := 26, slot := 5, constantValue := 0 }]
  methods := #[k16m0, k16m1, k16m2]
  instanceTypes := #[.long]
  staticTypes := #[.long, .long, (.object "java/lang/Class"), .int, .int, .long]
  resolved := Array.replicate 524 none
  statics := none }

def pool17 : Array CpInfo := pool [(2, .class_ 4), (1, u "java/lang/Object"), (0, u "<init>"), (0, u "()V"), (0, .class_ 8), (0, u "java/lang/Long"), (7, .class_ 18), (1, u "java/lang/Long$LongCache"), (0, u "$assertionsDisabled"), (0, u "Z"), (8, u "archivedCache"), (0, u "[Ljava/lang/Long;"), (7, u "cache")] 24

def k17m0 : Method := { name := "<init>", desc := "()V", sig := { parameters := [], returnType := none }, accessFlags := 2, code := none }
/-- java/lang/Long$LongCache -/
def k17 : Class := { plain "java/lang/Long$LongCache" (some 0) with
  accessFlags := 48
  interfaces := #[]
  cf := some (fileOf pool17 16 #[.nestHost 7] #[{ accessFlags := 2, nameIndex := 5, descriptorIndex := 6, attributes := #[] }] 48 2 #[] #[{ accessFlags := 24, nameIndex := 38, descriptorIndex := 30, attributes := #[] }, { accessFlags := 8, nameIndex := 29, descriptorIndex := 30, attributes := #[] }, { accessFlags := 4120, nameIndex := 19, descriptorIndex := 20, attributes := #[] }])
  fields := #[{ name := "cache", type := (.array (.object "java/lang/Long")), accessFlags := 24, slot := 0, constantValue := 0 }, { name := "archivedCache", type := (.array (.object "java/lang/Long")), accessFlags := 8, slot := 1, constantValue := 0 }, { name := "$assertionsDisabled", type := .boolean, accessFlags := 4120, slot := 2, constantValue := 0 }]
  methods := #[k17m0]
  instanceTypes := #[]
  staticTypes := #[(.array (.object "java/lang/Long")), (.array (.object "java/lang/Long")), .boolean]
  resolved := Array.replicate 63 none
  statics := some 1 }

def pool18 : Array CpInfo := pool [(1, .class_ 2), (0, u "java/lang/Math"), (1, .class_ 6), (1, u "java/lang/Object"), (0, u "<init>"), (0, u "()V"), (89, .class_ 100), (1, u "java/lang/Math$RandomNumberGeneratorHolder"), (71, u "negativeZeroFloatBits"), (0, u "J"), (2, u "negativeZeroDoubleBits"), (21, u "max"), (46, u "$assertionsDisabled"), (0, u "Z"), (88, u "(II)I"), (2, u "twoToTheDoubleScaleDown"), (0, u "D"), (4, u "twoToTheDoubleScaleUp"), (9, u "E"), (3, u "PI"), (2, u "TAU"), (2, u "DEGREES_TO_RADIANS"), (0, u "RADIANS_TO_DEGREES")] 94

def k18m0 : Method := { name := "<init>", desc := "()V", sig := { parameters := [], returnType := none }, accessFlags := 2, code := none }
def k18c1 : Code := { maxStack := 2, maxLocals := 2, code := jdk_29_method_65_code, exceptionTable := #[], attributes := #[] }
def k18m1 : Method := { name := "max", desc := "(II)I", sig := { parameters := [.int, .int], returnType := some .int }, accessFlags := 9, code := some k18c1 }
/-- java/lang/Math -/
def k18 : Class := { plain "java/lang/Math" (some 0) with
  accessFlags := 49
  interfaces := #[]
  cf := some (fileOf pool18 1 #[.nestMembers #[98]] #[{ accessFlags := 2, nameIndex := 7, descriptorIndex := 8, attributes := #[] }, { accessFlags := 9, nameIndex := 198, descriptorIndex := 335, attributes := #[] }] 49 4 #[] #[{ accessFlags := 25, nameIndex := 354, descriptorIndex := 339, attributes := #[] }, { accessFlags := 25, nameIndex := 358, descriptorIndex := 339, attributes := #[] }, { accessFlags := 25, nameIndex := 361, descriptorIndex := 339, attributes := #[] }, { accessFlags := 26, nameIndex := 364, descriptorIndex := 339, attributes := #[] }, { accessFlags := 26, nameIndex := 365, descriptorIndex := 339, attributes := #[] }, { accessFlags := 26, nameIndex := 172, descriptorIndex := 173, attributes := #[] }, { accessFlags := 26, nameIndex := 176, descriptorIndex := 173, attributes := #[] }, { accessFlags := 8, nameIndex := 344, descriptorIndex := 339, attributes := #[] }, { accessFlags := 8, nameIndex := 338, descriptorIndex := 339, attributes := #[] }, { accessFlags := 4120, nameIndex := 245, descriptorIndex := 246, attributes := #[] }])
  fields := #[{ name := "E", type := .double, accessFlags := 25, slot := 0, constantValue := 0 }, { name := "PI", type := .double, accessFlags := 25, slot := 1, constantValue := 0 }, { name := "TAU", type := .double, accessFlags := 25, slot := 2, constantValue := 0 }, { name := "DEGREES_TO_RADIANS", type := .double, accessFlags := 26, slot := 3, constantValue := 0 }, { name := "RADIANS_TO_DEGREES", type := .double, accessFlags := 26, slot := 4, constantValue := 0 }, { name := "negativeZeroFloatBits", type := .long, accessFlags := 26, slot := 5, constantValue := 0 }, { name := "negativeZeroDoubleBits", type := .long, accessFlags := 26, slot := 6, constantValue := 0 }, { name := "twoToTheDoubleScaleUp", type := .double, accessFlags := 8, slot := 7, constantValue := 0 }, { name := "twoToTheDoubleScaleDown", type := .double, accessFlags := 8, slot := 8, constantValue := 0 }, { name := "$assertionsDisabled", type := .boolean, accessFlags := 4120, slot := 9, constantValue := 0 }]
  methods := #[k18m0, k18m1]
  instanceTypes := #[]
  staticTypes := #[.double, .double, .double, .double, .double, .long, .long, .double, .double, .boolean]
  resolved := Array.replicate 460 none
  statics := none }

def pool19 : Array CpInfo := pool [(1, .methodref 2 3), (0, .class_ 4), (0, .nameAndType 5 6), (0, u "java/lang/Object"), (0, u "<init>"), (0, u "()V"), (0, .fieldref 8 9), (0, .class_ 10), (0, .nameAndType 11 12), (0, u "com/example/plus1/plus1/Take"), (0, u "holds"), (0, u "J"), (0, .fieldref 8 14), (0, .nameAndType 15 12), (0, u "retryMillis"), (0, .fieldref 8 17), (0, .nameAndType 18 19), (0, u "heldBefore"), (0, u "Ljava/lang/Boolean;"), (0, .interfaceMethodref 21 22), (0, .class_ 23), (0, .nameAndType 24 25), (0, u "java/util/List"), (0, u "get"), (0, u "(I)Ljava/lang/Object;"), (0, .class_ 27), (0, u "java/lang/Long"), (0, .methodref 26 29), (0, .nameAndType 30 31), (0, u "longValue"), (0, u "()J"), (0, .methodref 8 33), (0, .nameAndType 34 35), (0, u "of"), (0, u "(JJ)Lcom/example/plus1/plus1/Take;"), (0, .methodref 37 38), (0, .class_ 39), (0, .nameAndType 40 41), (0, u "java/lang/Boolean"), (0, u "valueOf"), (0, u "(Z)Ljava/lang/Boolean;"), (0, .methodref 8 43), (0, .nameAndType 5 44), (0, u "(JJLjava/lang/Boolean;)V"), (0, .long 9223372036854775807), (1, .fieldref 48 49), (0, .class_ 50), (0, .nameAndType 51 52), (0, u "java/util/concurrent/TimeUnit"), (0, u "MILLISECONDS"), (0, u "Ljava/util/concurrent/TimeUnit;"), (0, .methodref 48 54), (0, .nameAndType 55 56), (0, u "toNanos"), (0, u "(J)J"), (2, u "(Ljava/util/List;)Lcom/example/plus1/plus1/Take;"), (4, u "taken"), (0, u "()Z"), (0, u "()Ljava/lang/Boolean;"), (0, u "retryNanos")] 2

def k19c0 : Code := { maxStack := 3, maxLocals := 6, code := prog_5_method_1_code, exceptionTable := #[], attributes := #[] }
def k19m0 : Method := { name := "<init>", desc := "(JJLjava/lang/Boolean;)V", sig := { parameters := [.long, .long, (.object "java/lang/Boolean")], returnType := none }, accessFlags := 2, code := some k19c0 }
def k19c1 : Code := { maxStack := 4, maxLocals := 1, code := prog_5_method_2_code, exceptionTable := #[], attributes := #[] }
def k19m1 : Method := { name := "of", desc := "(Ljava/util/List;)Lcom/example/plus1/plus1/Take;", sig := { parameters := [(.object "java/util/List")], returnType := some (.object "com/example/plus1/plus1/Take") }, accessFlags := 8, code := some k19c1 }
def k19c2 : Code := { maxStack := 10, maxLocals := 4, code := prog_5_method_3_code, exceptionTable := #[], attributes := #[] }
def k19m2 : Method := { name := "of", desc := "(JJ)Lcom/example/plus1/plus1/Take;", sig := { parameters := [.long, .long], returnType := some (.object "com/example/plus1/plus1/Take") }, accessFlags := 8, code := some k19c2 }
def k19c3 : Code := { maxStack := 4, maxLocals := 1, code := prog_5_method_5_code, exceptionTable := #[], attributes := #[] }
def k19m3 : Method := { name := "taken", desc := "()Z", sig := { parameters := [], returnType := some .boolean }, accessFlags := 0, code := some k19c3 }
def k19c4 : Code := { maxStack := 2, maxLocals := 1, code := prog_5_method_6_code, exceptionTable := #[], attributes := #[] }
def k19m4 : Method := { name := "holds", desc := "()J", sig := { parameters := [], returnType := some .long }, accessFlags := 0, code := some k19c4 }
def k19c5 : Code := { maxStack := 1, maxLocals := 1, code := prog_5_method_7_code, exceptionTable := #[], attributes := #[] }
def k19m5 : Method := { name := "heldBefore", desc := "()Ljava/lang/Boolean;", sig := { parameters := [], returnType := some (.object "java/lang/Boolean") }, accessFlags := 0, code := some k19c5 }
def k19c6 : Code := { maxStack := 5, maxLocals := 1, code := prog_5_method_8_code, exceptionTable := #[], attributes := #[] }
def k19m6 : Method := { name := "retryNanos", desc := "()J", sig := { parameters := [], returnType := some .long }, accessFlags := 0, code := some k19c6 }
/-- com/example/plus1/plus1/Take -/
def k19 : Class := { plain "com/example/plus1/plus1/Take" (some 0) with
  accessFlags := 48
  interfaces := #[]
  cf := some (fileOf pool19 8 #[] #[{ accessFlags := 2, nameIndex := 5, descriptorIndex := 44, attributes := #[] }, { accessFlags := 8, nameIndex := 34, descriptorIndex := 59, attributes := #[] }, { accessFlags := 8, nameIndex := 34, descriptorIndex := 35, attributes := #[] }, { accessFlags := 0, nameIndex := 64, descriptorIndex := 65, attributes := #[] }, { accessFlags := 0, nameIndex := 11, descriptorIndex := 31, attributes := #[] }, { accessFlags := 0, nameIndex := 18, descriptorIndex := 66, attributes := #[] }, { accessFlags := 0, nameIndex := 67, descriptorIndex := 31, attributes := #[] }] 48 2 #[] #[{ accessFlags := 18, nameIndex := 11, descriptorIndex := 12, attributes := #[] }, { accessFlags := 18, nameIndex := 15, descriptorIndex := 12, attributes := #[] }, { accessFlags := 18, nameIndex := 18, descriptorIndex := 19, attributes := #[] }])
  fields := #[{ name := "holds", type := .long, accessFlags := 18, slot := 0, constantValue := 0 }, { name := "retryMillis", type := .long, accessFlags := 18, slot := 1, constantValue := 0 }, { name := "heldBefore", type := (.object "java/lang/Boolean"), accessFlags := 18, slot := 2, constantValue := 0 }]
  methods := #[k19m0, k19m1, k19m2, k19m3, k19m4, k19m5, k19m6]
  instanceTypes := #[.long, .long, (.object "java/lang/Boolean")]
  staticTypes := #[]
  resolved := Array.replicate 70 none
  statics := none }

def pool20 : Array CpInfo := pool [(2, .class_ 4), (1, u "java/lang/Object"), (0, u "<init>"), (0, u "()V"), (35, .class_ 44), (1, u "java/util/Objects"), (60, .methodref 106 107), (0, .class_ 108), (0, .nameAndType 109 110), (0, u "jdk/internal/util/Preconditions"), (0, u "checkIndex"), (0, u "(IILjava/util/function/BiFunction;)I"), (60, u "(II)I")] 12

def k20m0 : Method := { name := "<init>", desc := "()V", sig := { parameters := [], returnType := none }, accessFlags := 2, code := none }
def k20c1 : Code := { maxStack := 3, maxLocals := 2, code := jdk_31_method_17_code, exceptionTable := #[], attributes := #[] }
def k20m1 : Method := { name := "checkIndex", desc := "(II)I", sig := { parameters := [.int, .int], returnType := some .int }, accessFlags := 9, code := some k20c1 }
/-- java/util/Objects -/
def k20 : Class := { plain "java/util/Objects" (some 0) with
  accessFlags := 49
  interfaces := #[]
  cf := some (fileOf pool20 42 #[] #[{ accessFlags := 2, nameIndex := 5, descriptorIndex := 6, attributes := #[] }, { accessFlags := 9, nameIndex := 109, descriptorIndex := 171, attributes := #[] }] 49 2 #[] #[])
  fields := #[]
  methods := #[k20m0, k20m1]
  instanceTypes := #[]
  staticTypes := #[]
  resolved := Array.replicate 184 none
  statics := none }

def pool21 : Array CpInfo := pool [(2, .class_ 4), (1, u "java/lang/Object"), (0, u "<init>"), (0, u "()V"), (17, .class_ 26), (1, u "jdk/internal/util/Preconditions"), (6, u "checkIndex"), (21, .class_ 56), (0, u "jdk/internal/util/Preconditions$4"), (57, .class_ 115), (0, u "jdk/internal/util/Preconditions$1"), (7, u "SIOOBE_FORMATTER"), (0, u "Ljava/util/function/BiFunction;"), (0, .class_ 126), (0, u "jdk/internal/util/Preconditions$2"), (3, u "AIOOBE_FORMATTER"), (0, .class_ 132), (0, u "jdk/internal/util/Preconditions$3"), (3, u "IOOBE_FORMATTER"), (41, u "(IILjava/util/function/BiFunction;)I")] 15

def k21m0 : Method := { name := "<init>", desc := "()V", sig := { parameters := [], returnType := none }, accessFlags := 1, code := none }
def k21c1 : Code := { maxStack := 3, maxLocals := 3, code := jdk_41_method_11_code, exceptionTable := #[], attributes := #[] }
def k21m1 : Method := { name := "checkIndex", desc := "(IILjava/util/function/BiFunction;)I", sig := { parameters := [.int, .int, (.object "java/util/function/BiFunction")], returnType := some .int }, accessFlags := 9, code := some k21c1 }
/-- jdk/internal/util/Preconditions -/
def k21 : Class := { plain "jdk/internal/util/Preconditions" (some 0) with
  accessFlags := 33
  interfaces := #[]
  cf := some (fileOf pool21 24 #[.nestMembers #[55, 131, 125, 114]] #[{ accessFlags := 1, nameIndex := 5, descriptorIndex := 6, attributes := #[] }, { accessFlags := 9, nameIndex := 33, descriptorIndex := 178, attributes := #[] }] 33 2 #[] #[{ accessFlags := 25, nameIndex := 123, descriptorIndex := 124, attributes := #[] }, { accessFlags := 25, nameIndex := 130, descriptorIndex := 124, attributes := #[] }, { accessFlags := 25, nameIndex := 136, descriptorIndex := 124, attributes := #[] }])
  fields := #[{ name := "SIOOBE_FORMATTER", type := (.object "java/util/function/BiFunction"), accessFlags := 25, slot := 0, constantValue := 0 }, { name := "AIOOBE_FORMATTER", type := (.object "java/util/function/BiFunction"), accessFlags := 25, slot := 1, constantValue := 0 }, { name := "IOOBE_FORMATTER", type := (.object "java/util/function/BiFunction"), accessFlags := 25, slot := 2, constantValue := 0 }]
  methods := #[k21m0, k21m1]
  instanceTypes := #[]
  staticTypes := #[(.object "java/util/function/BiFunction"), (.object "java/util/function/BiFunction"), (.object "java/util/function/BiFunction")]
  resolved := Array.replicate 194 none
  statics := none }

def pool22 : Array CpInfo := pool [(2, .class_ 4), (1, u "java/lang/Object"), (2, .fieldref 8 9), (0, .class_ 10), (0, .nameAndType 11 12), (0, u "java/lang/Boolean"), (0, u "value"), (0, u "Z"), (14, .fieldref 8 28), (0, .nameAndType 29 30), (0, u "TRUE"), (0, u "Ljava/lang/Boolean;"), (0, .fieldref 8 32), (0, .nameAndType 33 30), (0, u "FALSE"), (2, u "valueOf"), (7, u "booleanValue"), (0, u "()Z"), (41, u "TYPE"), (0, u "Ljava/lang/Class;"), (0, .class_ 90), (0, u "java/io/Serializable"), (0, .class_ 92), (0, u "java/lang/Comparable"), (0, .class_ 94), (0, u "java/lang/constant/Constable"), (2, u "serialVersionUID"), (0, u "J"), (18, u "(Z)Ljava/lang/Boolean;")] 34

def k22c0 : Code := { maxStack := 1, maxLocals := 1, code := jdk_2055_method_4_code, exceptionTable := #[], attributes := #[] }
def k22m0 : Method := { name := "booleanValue", desc := "()Z", sig := { parameters := [], returnType := some .boolean }, accessFlags := 1, code := some k22c0 }
def k22c1 : Code := { maxStack := 1, maxLocals := 1, code := jdk_2055_method_5_code, exceptionTable := #[], attributes := #[] }
def k22m1 : Method := { name := "valueOf", desc := "(Z)Ljava/lang/Boolean;", sig := { parameters := [.boolean], returnType := some (.object "java/lang/Boolean") }, accessFlags := 9, code := some k22c1 }
/-- java/lang/Boolean -/
def k22 : Class := { plain "java/lang/Boolean" (some 0) with
  accessFlags := 49
  interfaces := #[10, 13, 14]
  cf := some (fileOf pool22 8 #[] #[{ accessFlags := 1, nameIndex := 44, descriptorIndex := 45, attributes := #[] }, { accessFlags := 9, nameIndex := 36, descriptorIndex := 117, attributes := #[] }] 49 2 #[89, 91, 93] #[{ accessFlags := 25, nameIndex := 29, descriptorIndex := 30, attributes := #[] }, { accessFlags := 25, nameIndex := 33, descriptorIndex := 30, attributes := #[] }, { accessFlags := 25, nameIndex := 87, descriptorIndex := 88, attributes := #[] }, { accessFlags := 18, nameIndex := 11, descriptorIndex := 12, attributes := #[] }, { accessFlags := 26, nameIndex := 97, descriptorIndex := 98, attributes := #[] }])
  fields := #[{ name := "TRUE", type := (.object "java/lang/Boolean"), accessFlags := 25, slot := 0, constantValue := 0 }, { name := "FALSE", type := (.object "java/lang/Boolean"), accessFlags := 25, slot := 1, constantValue := 0 }, { name := "TYPE", type := (.object "java/lang/Class"), accessFlags := 25, slot := 2, constantValue := 0 }, { name := "value", type := .boolean, accessFlags := 18, slot := 0, constantValue := 0 }, { name := "serialVersionUID", type := .long, accessFlags := 26, slot := 3, constantValue := 0 }]
  methods := #[k22m0, k22m1]
  instanceTypes := #[.boolean]
  staticTypes := #[(.object "java/lang/Boolean"), (.object "java/lang/Boolean"), (.object "java/lang/Class"), .long]
  resolved := Array.replicate 152 none
  statics := some 2 }

def pool23 : Array CpInfo := pool [(2, .class_ 4), (1, u "java/lang/Enum"), (0, u "name"), (0, u "Ljava/lang/String;"), (2, u "ordinal"), (0, u "I"), (1, .class_ 14), (1, u "java/lang/Object"), (4, u "hash"), (86, .class_ 108), (1, u "java/lang/Enum$EnumDesc"), (2, .class_ 112), (0, u "java/lang/constant/Constable"), (0, .class_ 114), (0, u "java/lang/Comparable"), (0, .class_ 116), (0, u "java/io/Serializable")] 87

/-- java/lang/Enum -/
def k23 : Class := { plain "java/lang/Enum" (some 0) with
  accessFlags := 1057
  interfaces := #[14, 13, 10]
  cf := some (fileOf pool23 2 #[.nestMembers #[106]] #[] 1057 12 #[111, 113, 115] #[{ accessFlags := 18, nameIndex := 5, descriptorIndex := 6, attributes := #[] }, { accessFlags := 18, nameIndex := 9, descriptorIndex := 10, attributes := #[] }, { accessFlags := 2, nameIndex := 19, descriptorIndex := 10, attributes := #[] }])
  fields := #[{ name := "name", type := (.object "java/lang/String"), accessFlags := 18, slot := 0, constantValue := 0 }, { name := "ordinal", type := .int, accessFlags := 18, slot := 1, constantValue := 0 }, { name := "hash", type := .int, accessFlags := 2, slot := 2, constantValue := 0 }]
  methods := #[]
  instanceTypes := #[(.object "java/lang/String"), .int, .int]
  staticTypes := #[]
  resolved := Array.replicate 204 none
  statics := none }

def pool24 : Array CpInfo := pool [(1, .class_ 2), (0, u "java/util/concurrent/TimeUnit"), (2, u "NANOSECONDS"), (0, u "Ljava/util/concurrent/TimeUnit;"), (2, u "MICROSECONDS"), (2, u "MILLISECONDS"), (2, u "SECONDS"), (2, u "MINUTES"), (2, u "HOURS"), (2, u "DAYS"), (2, u "$VALUES"), (0, u "[Ljava/util/concurrent/TimeUnit;"), (6, .class_ 37), (1, u "java/lang/Enum"), (6, .fieldref 1 45), (0, .nameAndType 46 47), (0, u "scale"), (0, u "J"), (2, .long 9223372036854775807), (1, .fieldref 1 53), (0, .nameAndType 54 47), (0, u "maxNanos"), (4, u "microRatio"), (2, u "maxMicros"), (4, u "milliRatio"), (0, u "I"), (2, u "maxMillis"), (4, u "secRatio"), (2, u "maxSecs"), (8, u "toNanos"), (0, u "(J)J"), (73, .class_ 165), (1, u "java/util/concurrent/TimeUnit$1"), (46, u "NANO_SCALE"), (3, u "MICRO_SCALE"), (0, u "MILLI_SCALE"), (0, u "SECOND_SCALE"), (0, u "MINUTE_SCALE"), (0, u "HOUR_SCALE"), (0, u "DAY_SCALE")] 61

def k24c0 : Code := { maxStack := 6, maxLocals := 7, code := jdk_2799_method_7_code, exceptionTable := #[], attributes := #[] }
def k24m0 : Method := { name := "toNanos", desc := "(J)J", sig := { parameters := [.long], returnType := some .long }, accessFlags := 1, code := some k24c0 }
/-- java/util/concurrent/TimeUnit -/
def k24 : Class := { plain "java/util/concurrent/TimeUnit" (some 23) with
  accessFlags := 16433
  interfaces := #[]
  cf := some (fileOf pool24 1 #[.nestMembers #[163]] #[{ accessFlags := 1, nameIndex := 88, descriptorIndex := 89, attributes := #[] }] 16433 35 #[] #[{ accessFlags := 16409, nameIndex := 5, descriptorIndex := 6, attributes := #[] }, { accessFlags := 16409, nameIndex := 9, descriptorIndex := 6, attributes := #[] }, { accessFlags := 16409, nameIndex := 12, descriptorIndex := 6, attributes := #[] }, { accessFlags := 16409, nameIndex := 15, descriptorIndex := 6, attributes := #[] }, { accessFlags := 16409, nameIndex := 18, descriptorIndex := 6, attributes := #[] }, { accessFlags := 16409, nameIndex := 21, descriptorIndex := 6, attributes := #[] }, { accessFlags := 16409, nameIndex := 24, descriptorIndex := 6, attributes := #[] }, { accessFlags := 26, nameIndex := 212, descriptorIndex := 47, attributes := #[] }, { accessFlags := 26, nameIndex := 216, descriptorIndex := 47, attributes := #[] }, { accessFlags := 26, nameIndex := 217, descriptorIndex := 47, attributes := #[] }, { accessFlags := 26, nameIndex := 218, descriptorIndex := 47, attributes := #[] }, { accessFlags := 26, nameIndex := 219, descriptorIndex := 47, attributes := #[] }, { accessFlags := 26, nameIndex := 220, descriptorIndex := 47, attributes := #[] }, { accessFlags := 26, nameIndex := 221, descriptorIndex := 47, attributes := #[] }, { accessFlags := 18, nameIndex := 46, descriptorIndex := 47, attributes := #[] }, { accessFlags := 18, nameIndex := 54, descriptorIndex := 47, attributes := #[] }, { accessFlags := 18, nameIndex := 62, descriptorIndex := 47, attributes := #[] }, { accessFlags := 18, nameIndex := 71, descriptorIndex := 47, attributes := #[] }, { accessFlags := 18, nameIndex := 79, descriptorIndex := 47, attributes := #[] }, { accessFlags := 18, nameIndex := 59, descriptorIndex := 47, attributes := #[] }, { accessFlags := 18, nameIndex := 67, descriptorIndex := 68, attributes := #[] }, { accessFlags := 18, nameIndex := 76, descriptorIndex := 68, attributes := #[] }, { accessFlags := 4122, nameIndex := 27, descriptorIndex := 28, attributes := #[] }])
  fields := #[{ name := "NANOSECONDS", type := (.object "java/util/concurrent/TimeUnit"), accessFlags := 16409, slot := 0, constantValue := 0 }, { name := "MICROSECONDS", type := (.object "java/util/concurrent/TimeUnit"), accessFlags := 16409, slot := 1, constantValue := 0 }, { name := "MILLISECONDS", type := (.object "java/util/concurrent/TimeUnit"), accessFlags := 16409, slot := 2, constantValue := 0 }, { name := "SECONDS", type := (.object "java/util/concurrent/TimeUnit"), accessFlags := 16409, slot := 3, constantValue := 0 }, { name := "MINUTES", type := (.object "java/util/concurrent/TimeUnit"), accessFlags := 16409, slot := 4, constantValue := 0 }, { name := "HOURS", type := (.object "java/util/concurrent/TimeUnit"), accessFlags := 16409, slot := 5, constantValue := 0 }, { name := "DAYS", type := (.object "java/util/concurrent/TimeUnit"), accessFlags := 16409, slot := 6, constantValue := 0 }, { name := "NANO_SCALE", type := .long, accessFlags := 26, slot := 7, constantValue := 0 }, { name := "MICRO_SCALE", type := .long, accessFlags := 26, slot := 8, constantValue := 0 }, { name := "MILLI_SCALE", type := .long, accessFlags := 26, slot := 9, constantValue := 0 }, { name := "SECOND_SCALE", type := .long, accessFlags := 26, slot := 10, constantValue := 0 }, { name := "MINUTE_SCALE", type := .long, accessFlags := 26, slot := 11, constantValue := 0 }, { name := "HOUR_SCALE", type := .long, accessFlags := 26, slot := 12, constantValue := 0 }, { name := "DAY_SCALE", type := .long, accessFlags := 26, slot := 13, constantValue := 0 }, { name := "scale", type := .long, accessFlags := 18, slot := 3, constantValue := 0 }, { name := "maxNanos", type := .long, accessFlags := 18, slot := 4, constantValue := 0 }, { name := "maxMicros", type := .long, accessFlags := 18, slot := 5, constantValue := 0 }, { name := "maxMillis", type := .long, accessFlags := 18, slot := 6, constantValue := 0 }, { name := "maxSecs", type := .long, accessFlags := 18, slot := 7, constantValue := 0 }, { name := "microRatio", type := .long, accessFlags := 18, slot := 8, constantValue := 0 }, { name := "milliRatio", type := .int, accessFlags := 18, slot := 9, constantValue := 0 }, { name := "secRatio", type := .int, accessFlags := 18, slot := 10, constantValue := 0 }, { name := "$VALUES", type := (.array (.object "java/util/concurrent/TimeUnit")), accessFlags := 4122, slot := 14, constantValue := 0 }]
  methods := #[k24m0]
  instanceTypes := #[(.object "java/lang/String"), .int, .int, .long, .long, .long, .long, .long, .long, .int, .int]
  staticTypes := #[(.object "java/util/concurrent/TimeUnit"), (.object "java/util/concurrent/TimeUnit"), (.object "java/util/concurrent/TimeUnit"), (.object "java/util/concurrent/TimeUnit"), (.object "java/util/concurrent/TimeUnit"), (.object "java/util/concurrent/TimeUnit"), (.object "java/util/concurrent/TimeUnit"), .long, .long, .long, .long, .long, .long, .long, (.array (.object "java/util/concurrent/TimeUnit"))]
  resolved := Array.replicate 283 none
  statics := some 3 }

def pool25 : Array CpInfo := pool [(2, .class_ 4), (1, u "java/lang/CharSequence"), (42, .class_ 48), (0, u "java/lang/CharSequence$1CodePointIterator"), (10, .class_ 60), (0, u "java/lang/CharSequence$1CharIterator"), (5, .class_ 67), (0, u "java/lang/Object")] 63

/-- java/lang/CharSequence -/
def k25 : Class := { plain "java/lang/CharSequence" (some 0) with
  accessFlags := 1537
  interfaces := #[]
  cf := some (fileOf pool25 2 #[.nestMembers #[47, 59]] #[] 1537 66 #[] #[])
  fields := #[]
  methods := #[]
  instanceTypes := #[]
  staticTypes := #[]
  resolved := Array.replicate 131 none
  statics := none }

def pool26 : Array CpInfo := pool [(2, .class_ 4), (1, u "java/lang/Object"), (0, u "<init>"), (0, u "()V"), (3, .class_ 12), (1, u "java/lang/String"), (0, u "value"), (0, u "[B"), (2, u "coder"), (0, u "B"), (2, u "hash"), (0, u "I"), (2, u "hashIsZero"), (0, u "Z"), (13, u "COMPACT_STRINGS"), (534, .class_ 576), (0, u "java/lang/CharSequence"), (22, u "CASE_INSENSITIVE_ORDER"), (0, u "Ljava/util/Comparator;"), (500, u "serialPersistentFields"), (0, u "[Ljava/io/ObjectStreamField;"), (0, .class_ 1104), (0, u "java/lang/String$CaseInsensitiveComparator"), (1, .class_ 1107), (0, u "java/io/Serializable"), (0, .class_ 1109), (0, u "java/lang/Comparable"), (0, .class_ 1111), (0, u "java/lang/constant/Constable"), (0, .class_ 1113), (0, u "java/lang/constant/ConstantDesc"), (2, u "serialVersionUID"), (0, u "J"), (3, u "REPL"), (0, u "C"), (2, u "LATIN1"), (1, u "UTF16")] 323

def k26m0 : Method := { name := "<init>", desc := "()V", sig := { parameters := [], returnType := none }, accessFlags := 1, code := none }
/-- java/lang/String -/
def k26 : Class := { plain "java/lang/String" (some 0) with
  accessFlags := 49
  interfaces := #[10, 13, 25, 14, 15]
  cf := some (fileOf pool26 10 #[.nestMembers #[1103]] #[{ accessFlags := 1, nameIndex := 5, descriptorIndex := 6, attributes := #[] }] 49 2 #[1106, 1108, 575, 1110, 1112] #[{ accessFlags := 18, nameIndex := 13, descriptorIndex := 14, attributes := #[] }, { accessFlags := 18, nameIndex := 17, descriptorIndex := 18, attributes := #[] }, { accessFlags := 2, nameIndex := 21, descriptorIndex := 22, attributes := #[] }, { accessFlags := 2, nameIndex := 25, descriptorIndex := 26, attributes := #[] }, { accessFlags := 26, nameIndex := 1116, descriptorIndex := 1117, attributes := #[] }, { accessFlags := 24, nameIndex := 40, descriptorIndex := 26, attributes := #[] }, { accessFlags := 26, nameIndex := 1101, descriptorIndex := 1102, attributes := #[] }, { accessFlags := 26, nameIndex := 1121, descriptorIndex := 1122, attributes := #[] }, { accessFlags := 25, nameIndex := 599, descriptorIndex := 600, attributes := #[] }, { accessFlags := 24, nameIndex := 1125, descriptorIndex := 18, attributes := #[] }, { accessFlags := 24, nameIndex := 1127, descriptorIndex := 18, attributes := #[] }])
  fields := #[{ name := "value", type := (.array .byte), accessFlags := 18, slot := 0, constantValue := 0 }, { name := "coder", type := .byte, accessFlags := 18, slot := 1, constantValue := 0 }, { name := "hash", type := .int, accessFlags := 2, slot := 2, constantValue := 0 }, { name := "hashIsZero", type := .boolean, accessFlags := 2, slot := 3, constantValue := 0 }, { name := "serialVersionUID", type := .long, accessFlags := 26, slot := 0, constantValue := 0 }, { name := "COMPACT_STRINGS", type := .boolean, accessFlags := 24, slot := 1, constantValue := 0 }, { name := "serialPersistentFields", type := (.array (.object "java/io/ObjectStreamField")), accessFlags := 26, slot := 2, constantValue := 0 }, { name := "REPL", type := .char, accessFlags := 26, slot := 3, constantValue := 0 }, { name := "CASE_INSENSITIVE_ORDER", type := (.object "java/util/Comparator"), accessFlags := 25, slot := 4, constantValue := 0 }, { name := "LATIN1", type := .byte, accessFlags := 24, slot := 5, constantValue := 0 }, { name := "UTF16", type := .byte, accessFlags := 24, slot := 6, constantValue := 0 }]
  methods := #[k26m0]
  instanceTypes := #[(.array .byte), .byte, .int, .boolean]
  staticTypes := #[.long, .boolean, (.array (.object "java/io/ObjectStreamField")), .char, (.object "java/util/Comparator"), .byte, .byte]
  resolved := Array.replicate 1451 none
  statics := none }

/-- the primitive byte -/
def k27 : Class := { plain "byte" none with kind := .primitive 'B', accessFlags := 0x411 }
/-- [B -/
def k28 : Class := { plain "[B" (some 0) with kind := .array 27 .byte, interfaces := #[9, 10], accessFlags := 1041 }

/-- the primitive int -/
def k29 : Class := { plain "int" none with kind := .primitive 'I', accessFlags := 0x411 }
/-- [I -/
def k30 : Class := { plain "[I" (some 0) with kind := .array 29 .int, interfaces := #[9, 10], accessFlags := 1041 }

/-- [Ljava/lang/Long; -/
def k31 : Class := { plain "[Ljava/lang/Long;" (some 0) with kind := .array 16 (.object "java/lang/Long"), interfaces := #[9, 10], accessFlags := 1041 }

/-- [Ljava/lang/Object; -/
def k32 : Class := { plain "[Ljava/lang/Object;" (some 0) with kind := .array 0 (.object "java/lang/Object"), interfaces := #[9, 10], accessFlags := 1041 }

def heap : Heap := #[{ cls := 11, slots := #[.long 0, .int 0, .ref 4, .ref 5], vm := .statics 11 },
  { cls := 17, slots := #[.ref 6, .null, .int 0], vm := .statics 17 },
  { cls := 22, slots := #[.ref 7, .ref 10, .null, .long 0], vm := .statics 22 },
  { cls := 24, slots := #[.null, .null, .ref 8, .null, .null, .null, .null, .long 0, .long 0, .long 0, .long 0, .long 0, .long 0, .long 0, .null], vm := .statics 24 },
  { cls := 32, slots := #[], vm := .none },
  { cls := 32, slots := #[], vm := .none },
  { cls := 31, slots := #[.ref 11, .ref 12, .ref 13, .ref 14, .ref 15, .ref 16, .ref 17, .ref 18, .ref 19, .ref 20, .ref 21, .ref 22, .ref 23, .ref 24, .ref 25, .ref 26, .ref 27, .ref 28, .ref 29, .ref 30, .ref 31, .ref 32, .ref 33, .ref 34, .ref 35, .ref 36, .ref 37, .ref 38, .ref 39, .ref 40, .ref 41, .ref 42, .ref 43, .ref 44, .ref 45, .ref 46, .ref 47, .ref 48, .ref 49, .ref 50, .ref 51, .ref 52, .ref 53, .ref 54, .ref 55, .ref 56, .ref 57, .ref 58, .ref 59, .ref 60, .ref 61, .ref 62, .ref 63, .ref 64, .ref 65, .ref 66, .ref 67, .ref 68, .ref 69, .ref 70, .ref 71, .ref 72, .ref 73, .ref 74, .ref 75, .ref 76, .ref 77, .ref 78, .ref 79, .ref 80, .ref 81, .ref 82, .ref 83, .ref 84, .ref 85, .ref 86, .ref 87, .ref 88, .ref 89, .ref 90, .ref 91, .ref 92, .ref 93, .ref 94, .ref 95, .ref 96, .ref 97, .ref 98, .ref 99, .ref 100, .ref 101, .ref 102, .ref 103, .ref 104, .ref 105, .ref 106, .ref 107, .ref 108, .ref 109, .ref 110, .ref 111, .ref 112, .ref 113, .ref 114, .ref 115, .ref 116, .ref 117, .ref 118, .ref 119, .ref 120, .ref 121, .ref 122, .ref 123, .ref 124, .ref 125, .ref 126, .ref 127, .ref 128, .ref 129, .ref 130, .ref 131, .ref 132, .ref 133, .ref 134, .ref 135, .ref 136, .ref 137, .ref 138, .ref 139, .ref 140, .ref 141, .ref 142, .ref 143, .ref 144, .ref 145, .ref 146, .ref 147, .ref 148, .ref 149, .ref 150, .ref 151, .ref 152, .ref 153, .ref 154, .ref 155, .ref 156, .ref 157, .ref 158, .ref 159, .ref 160, .ref 161, .ref 162, .ref 163, .ref 164, .ref 165, .ref 166, .ref 167, .ref 168, .ref 169, .ref 170, .ref 171, .ref 172, .ref 173, .ref 174, .ref 175, .ref 176, .ref 177, .ref 178, .ref 179, .ref 180, .ref 181, .ref 182, .ref 183, .ref 184, .ref 185, .ref 186, .ref 187, .ref 188, .ref 189, .ref 190, .ref 191, .ref 192, .ref 193, .ref 194, .ref 195, .ref 196, .ref 197, .ref 198, .ref 199, .ref 200, .ref 201, .ref 202, .ref 203, .ref 204, .ref 205, .ref 206, .ref 207, .ref 208, .ref 209, .ref 210, .ref 211, .ref 212, .ref 213, .ref 214, .ref 215, .ref 216, .ref 217, .ref 218, .ref 219, .ref 220, .ref 221, .ref 222, .ref 223, .ref 224, .ref 225, .ref 226, .ref 227, .ref 228, .ref 229, .ref 230, .ref 231, .ref 232, .ref 233, .ref 234, .ref 235, .ref 236, .ref 237, .ref 238, .ref 239, .ref 240, .ref 241, .ref 242, .ref 243, .ref 244, .ref 245, .ref 246, .ref 247, .ref 248, .ref 249, .ref 250, .ref 251, .ref 252, .ref 253, .ref 254, .ref 255, .ref 256, .ref 257, .ref 258, .ref 259, .ref 260, .ref 261, .ref 262, .ref 263, .ref 264, .ref 265, .ref 266], vm := .none },
  { cls := 22, slots := #[.int 1], vm := .none },
  { cls := 24, slots := #[.ref 9, .int 2, .int 0, .long 1000000, .long 9223372036854, .long 9223372036854775, .long 9223372036854775807, .long 9223372036854775, .long 1000, .int 1, .int 1000], vm := .none },
  { cls := 26, slots := #[.null, .int 0, .int 0, .int 0], vm := .none },
  { cls := 22, slots := #[.int 0], vm := .none },
  { cls := 16, slots := #[.long (-128)], vm := .none },
  { cls := 16, slots := #[.long (-127)], vm := .none },
  { cls := 16, slots := #[.long (-126)], vm := .none },
  { cls := 16, slots := #[.long (-125)], vm := .none },
  { cls := 16, slots := #[.long (-124)], vm := .none },
  { cls := 16, slots := #[.long (-123)], vm := .none },
  { cls := 16, slots := #[.long (-122)], vm := .none },
  { cls := 16, slots := #[.long (-121)], vm := .none },
  { cls := 16, slots := #[.long (-120)], vm := .none },
  { cls := 16, slots := #[.long (-119)], vm := .none },
  { cls := 16, slots := #[.long (-118)], vm := .none },
  { cls := 16, slots := #[.long (-117)], vm := .none },
  { cls := 16, slots := #[.long (-116)], vm := .none },
  { cls := 16, slots := #[.long (-115)], vm := .none },
  { cls := 16, slots := #[.long (-114)], vm := .none },
  { cls := 16, slots := #[.long (-113)], vm := .none },
  { cls := 16, slots := #[.long (-112)], vm := .none },
  { cls := 16, slots := #[.long (-111)], vm := .none },
  { cls := 16, slots := #[.long (-110)], vm := .none },
  { cls := 16, slots := #[.long (-109)], vm := .none },
  { cls := 16, slots := #[.long (-108)], vm := .none },
  { cls := 16, slots := #[.long (-107)], vm := .none },
  { cls := 16, slots := #[.long (-106)], vm := .none },
  { cls := 16, slots := #[.long (-105)], vm := .none },
  { cls := 16, slots := #[.long (-104)], vm := .none },
  { cls := 16, slots := #[.long (-103)], vm := .none },
  { cls := 16, slots := #[.long (-102)], vm := .none },
  { cls := 16, slots := #[.long (-101)], vm := .none },
  { cls := 16, slots := #[.long (-100)], vm := .none },
  { cls := 16, slots := #[.long (-99)], vm := .none },
  { cls := 16, slots := #[.long (-98)], vm := .none },
  { cls := 16, slots := #[.long (-97)], vm := .none },
  { cls := 16, slots := #[.long (-96)], vm := .none },
  { cls := 16, slots := #[.long (-95)], vm := .none },
  { cls := 16, slots := #[.long (-94)], vm := .none },
  { cls := 16, slots := #[.long (-93)], vm := .none },
  { cls := 16, slots := #[.long (-92)], vm := .none },
  { cls := 16, slots := #[.long (-91)], vm := .none },
  { cls := 16, slots := #[.long (-90)], vm := .none },
  { cls := 16, slots := #[.long (-89)], vm := .none },
  { cls := 16, slots := #[.long (-88)], vm := .none },
  { cls := 16, slots := #[.long (-87)], vm := .none },
  { cls := 16, slots := #[.long (-86)], vm := .none },
  { cls := 16, slots := #[.long (-85)], vm := .none },
  { cls := 16, slots := #[.long (-84)], vm := .none },
  { cls := 16, slots := #[.long (-83)], vm := .none },
  { cls := 16, slots := #[.long (-82)], vm := .none },
  { cls := 16, slots := #[.long (-81)], vm := .none },
  { cls := 16, slots := #[.long (-80)], vm := .none },
  { cls := 16, slots := #[.long (-79)], vm := .none },
  { cls := 16, slots := #[.long (-78)], vm := .none },
  { cls := 16, slots := #[.long (-77)], vm := .none },
  { cls := 16, slots := #[.long (-76)], vm := .none },
  { cls := 16, slots := #[.long (-75)], vm := .none },
  { cls := 16, slots := #[.long (-74)], vm := .none },
  { cls := 16, slots := #[.long (-73)], vm := .none },
  { cls := 16, slots := #[.long (-72)], vm := .none },
  { cls := 16, slots := #[.long (-71)], vm := .none },
  { cls := 16, slots := #[.long (-70)], vm := .none },
  { cls := 16, slots := #[.long (-69)], vm := .none },
  { cls := 16, slots := #[.long (-68)], vm := .none },
  { cls := 16, slots := #[.long (-67)], vm := .none },
  { cls := 16, slots := #[.long (-66)], vm := .none },
  { cls := 16, slots := #[.long (-65)], vm := .none },
  { cls := 16, slots := #[.long (-64)], vm := .none },
  { cls := 16, slots := #[.long (-63)], vm := .none },
  { cls := 16, slots := #[.long (-62)], vm := .none },
  { cls := 16, slots := #[.long (-61)], vm := .none },
  { cls := 16, slots := #[.long (-60)], vm := .none },
  { cls := 16, slots := #[.long (-59)], vm := .none },
  { cls := 16, slots := #[.long (-58)], vm := .none },
  { cls := 16, slots := #[.long (-57)], vm := .none },
  { cls := 16, slots := #[.long (-56)], vm := .none },
  { cls := 16, slots := #[.long (-55)], vm := .none },
  { cls := 16, slots := #[.long (-54)], vm := .none },
  { cls := 16, slots := #[.long (-53)], vm := .none },
  { cls := 16, slots := #[.long (-52)], vm := .none },
  { cls := 16, slots := #[.long (-51)], vm := .none },
  { cls := 16, slots := #[.long (-50)], vm := .none },
  { cls := 16, slots := #[.long (-49)], vm := .none },
  { cls := 16, slots := #[.long (-48)], vm := .none },
  { cls := 16, slots := #[.long (-47)], vm := .none },
  { cls := 16, slots := #[.long (-46)], vm := .none },
  { cls := 16, slots := #[.long (-45)], vm := .none },
  { cls := 16, slots := #[.long (-44)], vm := .none },
  { cls := 16, slots := #[.long (-43)], vm := .none },
  { cls := 16, slots := #[.long (-42)], vm := .none },
  { cls := 16, slots := #[.long (-41)], vm := .none },
  { cls := 16, slots := #[.long (-40)], vm := .none },
  { cls := 16, slots := #[.long (-39)], vm := .none },
  { cls := 16, slots := #[.long (-38)], vm := .none },
  { cls := 16, slots := #[.long (-37)], vm := .none },
  { cls := 16, slots := #[.long (-36)], vm := .none },
  { cls := 16, slots := #[.long (-35)], vm := .none },
  { cls := 16, slots := #[.long (-34)], vm := .none },
  { cls := 16, slots := #[.long (-33)], vm := .none },
  { cls := 16, slots := #[.long (-32)], vm := .none },
  { cls := 16, slots := #[.long (-31)], vm := .none },
  { cls := 16, slots := #[.long (-30)], vm := .none },
  { cls := 16, slots := #[.long (-29)], vm := .none },
  { cls := 16, slots := #[.long (-28)], vm := .none },
  { cls := 16, slots := #[.long (-27)], vm := .none },
  { cls := 16, slots := #[.long (-26)], vm := .none },
  { cls := 16, slots := #[.long (-25)], vm := .none },
  { cls := 16, slots := #[.long (-24)], vm := .none },
  { cls := 16, slots := #[.long (-23)], vm := .none },
  { cls := 16, slots := #[.long (-22)], vm := .none },
  { cls := 16, slots := #[.long (-21)], vm := .none },
  { cls := 16, slots := #[.long (-20)], vm := .none },
  { cls := 16, slots := #[.long (-19)], vm := .none },
  { cls := 16, slots := #[.long (-18)], vm := .none },
  { cls := 16, slots := #[.long (-17)], vm := .none },
  { cls := 16, slots := #[.long (-16)], vm := .none },
  { cls := 16, slots := #[.long (-15)], vm := .none },
  { cls := 16, slots := #[.long (-14)], vm := .none },
  { cls := 16, slots := #[.long (-13)], vm := .none },
  { cls := 16, slots := #[.long (-12)], vm := .none },
  { cls := 16, slots := #[.long (-11)], vm := .none },
  { cls := 16, slots := #[.long (-10)], vm := .none },
  { cls := 16, slots := #[.long (-9)], vm := .none },
  { cls := 16, slots := #[.long (-8)], vm := .none },
  { cls := 16, slots := #[.long (-7)], vm := .none },
  { cls := 16, slots := #[.long (-6)], vm := .none },
  { cls := 16, slots := #[.long (-5)], vm := .none },
  { cls := 16, slots := #[.long (-4)], vm := .none },
  { cls := 16, slots := #[.long (-3)], vm := .none },
  { cls := 16, slots := #[.long (-2)], vm := .none },
  { cls := 16, slots := #[.long (-1)], vm := .none },
  { cls := 16, slots := #[.long 0], vm := .none },
  { cls := 16, slots := #[.long 1], vm := .none },
  { cls := 16, slots := #[.long 2], vm := .none },
  { cls := 16, slots := #[.long 3], vm := .none },
  { cls := 16, slots := #[.long 4], vm := .none },
  { cls := 16, slots := #[.long 5], vm := .none },
  { cls := 16, slots := #[.long 6], vm := .none },
  { cls := 16, slots := #[.long 7], vm := .none },
  { cls := 16, slots := #[.long 8], vm := .none },
  { cls := 16, slots := #[.long 9], vm := .none },
  { cls := 16, slots := #[.long 10], vm := .none },
  { cls := 16, slots := #[.long 11], vm := .none },
  { cls := 16, slots := #[.long 12], vm := .none },
  { cls := 16, slots := #[.long 13], vm := .none },
  { cls := 16, slots := #[.long 14], vm := .none },
  { cls := 16, slots := #[.long 15], vm := .none },
  { cls := 16, slots := #[.long 16], vm := .none },
  { cls := 16, slots := #[.long 17], vm := .none },
  { cls := 16, slots := #[.long 18], vm := .none },
  { cls := 16, slots := #[.long 19], vm := .none },
  { cls := 16, slots := #[.long 20], vm := .none },
  { cls := 16, slots := #[.long 21], vm := .none },
  { cls := 16, slots := #[.long 22], vm := .none },
  { cls := 16, slots := #[.long 23], vm := .none },
  { cls := 16, slots := #[.long 24], vm := .none },
  { cls := 16, slots := #[.long 25], vm := .none },
  { cls := 16, slots := #[.long 26], vm := .none },
  { cls := 16, slots := #[.long 27], vm := .none },
  { cls := 16, slots := #[.long 28], vm := .none },
  { cls := 16, slots := #[.long 29], vm := .none },
  { cls := 16, slots := #[.long 30], vm := .none },
  { cls := 16, slots := #[.long 31], vm := .none },
  { cls := 16, slots := #[.long 32], vm := .none },
  { cls := 16, slots := #[.long 33], vm := .none },
  { cls := 16, slots := #[.long 34], vm := .none },
  { cls := 16, slots := #[.long 35], vm := .none },
  { cls := 16, slots := #[.long 36], vm := .none },
  { cls := 16, slots := #[.long 37], vm := .none },
  { cls := 16, slots := #[.long 38], vm := .none },
  { cls := 16, slots := #[.long 39], vm := .none },
  { cls := 16, slots := #[.long 40], vm := .none },
  { cls := 16, slots := #[.long 41], vm := .none },
  { cls := 16, slots := #[.long 42], vm := .none },
  { cls := 16, slots := #[.long 43], vm := .none },
  { cls := 16, slots := #[.long 44], vm := .none },
  { cls := 16, slots := #[.long 45], vm := .none },
  { cls := 16, slots := #[.long 46], vm := .none },
  { cls := 16, slots := #[.long 47], vm := .none },
  { cls := 16, slots := #[.long 48], vm := .none },
  { cls := 16, slots := #[.long 49], vm := .none },
  { cls := 16, slots := #[.long 50], vm := .none },
  { cls := 16, slots := #[.long 51], vm := .none },
  { cls := 16, slots := #[.long 52], vm := .none },
  { cls := 16, slots := #[.long 53], vm := .none },
  { cls := 16, slots := #[.long 54], vm := .none },
  { cls := 16, slots := #[.long 55], vm := .none },
  { cls := 16, slots := #[.long 56], vm := .none },
  { cls := 16, slots := #[.long 57], vm := .none },
  { cls := 16, slots := #[.long 58], vm := .none },
  { cls := 16, slots := #[.long 59], vm := .none },
  { cls := 16, slots := #[.long 60], vm := .none },
  { cls := 16, slots := #[.long 61], vm := .none },
  { cls := 16, slots := #[.long 62], vm := .none },
  { cls := 16, slots := #[.long 63], vm := .none },
  { cls := 16, slots := #[.long 64], vm := .none },
  { cls := 16, slots := #[.long 65], vm := .none },
  { cls := 16, slots := #[.long 66], vm := .none },
  { cls := 16, slots := #[.long 67], vm := .none },
  { cls := 16, slots := #[.long 68], vm := .none },
  { cls := 16, slots := #[.long 69], vm := .none },
  { cls := 16, slots := #[.long 70], vm := .none },
  { cls := 16, slots := #[.long 71], vm := .none },
  { cls := 16, slots := #[.long 72], vm := .none },
  { cls := 16, slots := #[.long 73], vm := .none },
  { cls := 16, slots := #[.long 74], vm := .none },
  { cls := 16, slots := #[.long 75], vm := .none },
  { cls := 16, slots := #[.long 76], vm := .none },
  { cls := 16, slots := #[.long 77], vm := .none },
  { cls := 16, slots := #[.long 78], vm := .none },
  { cls := 16, slots := #[.long 79], vm := .none },
  { cls := 16, slots := #[.long 80], vm := .none },
  { cls := 16, slots := #[.long 81], vm := .none },
  { cls := 16, slots := #[.long 82], vm := .none },
  { cls := 16, slots := #[.long 83], vm := .none },
  { cls := 16, slots := #[.long 84], vm := .none },
  { cls := 16, slots := #[.long 85], vm := .none },
  { cls := 16, slots := #[.long 86], vm := .none },
  { cls := 16, slots := #[.long 87], vm := .none },
  { cls := 16, slots := #[.long 88], vm := .none },
  { cls := 16, slots := #[.long 89], vm := .none },
  { cls := 16, slots := #[.long 90], vm := .none },
  { cls := 16, slots := #[.long 91], vm := .none },
  { cls := 16, slots := #[.long 92], vm := .none },
  { cls := 16, slots := #[.long 93], vm := .none },
  { cls := 16, slots := #[.long 94], vm := .none },
  { cls := 16, slots := #[.long 95], vm := .none },
  { cls := 16, slots := #[.long 96], vm := .none },
  { cls := 16, slots := #[.long 97], vm := .none },
  { cls := 16, slots := #[.long 98], vm := .none },
  { cls := 16, slots := #[.long 99], vm := .none },
  { cls := 16, slots := #[.long 100], vm := .none },
  { cls := 16, slots := #[.long 101], vm := .none },
  { cls := 16, slots := #[.long 102], vm := .none },
  { cls := 16, slots := #[.long 103], vm := .none },
  { cls := 16, slots := #[.long 104], vm := .none },
  { cls := 16, slots := #[.long 105], vm := .none },
  { cls := 16, slots := #[.long 106], vm := .none },
  { cls := 16, slots := #[.long 107], vm := .none },
  { cls := 16, slots := #[.long 108], vm := .none },
  { cls := 16, slots := #[.long 109], vm := .none },
  { cls := 16, slots := #[.long 110], vm := .none },
  { cls := 16, slots := #[.long 111], vm := .none },
  { cls := 16, slots := #[.long 112], vm := .none },
  { cls := 16, slots := #[.long 113], vm := .none },
  { cls := 16, slots := #[.long 114], vm := .none },
  { cls := 16, slots := #[.long 115], vm := .none },
  { cls := 16, slots := #[.long 116], vm := .none },
  { cls := 16, slots := #[.long 117], vm := .none },
  { cls := 16, slots := #[.long 118], vm := .none },
  { cls := 16, slots := #[.long 119], vm := .none },
  { cls := 16, slots := #[.long 120], vm := .none },
  { cls := 16, slots := #[.long 121], vm := .none },
  { cls := 16, slots := #[.long 122], vm := .none },
  { cls := 16, slots := #[.long 123], vm := .none },
  { cls := 16, slots := #[.long 124], vm := .none },
  { cls := 16, slots := #[.long 125], vm := .none },
  { cls := 16, slots := #[.long 126], vm := .none },
  { cls := 16, slots := #[.long 127], vm := .none }]
def classes : Array Class := #[k0, k1, k2, k3, k4, k5, k6, k7, k8, k9, k10, k11, k12, k13, k14, k15, k16, k17, k18, k19, k20, k21, k22, k23, k24, k25, k26, k27, k28, k29, k30, k31, k32]
def interned : List (Array UInt16 × Addr) := []
def slotsUsed : Nat := 555
def theMethod : MethodId := ⟨1, 2⟩
def args0 : Array Value := #[.long 500, .long 3, .long 7, .int 1]
def aboutOver (below : List Frame) : State where
  vm := { classes := classes, interned := interned.toArray }
  heap := heap
  slotsUsed := slotsUsed
  threads := #[{ frames := .invoking theMethod args0 :: below }]
def below0 : List Frame := [.native { method := ⟨0, 0⟩, args := #[] }]
def about1 : State := aboutOver below0
def p0 : Program := .bare "" "" ""
def e0 : Env := launch0.env 0 0 0
theorem w_frames : about1.frames = Frame.invoking theMethod args0 :: below0 := rfl
set_option maxRecDepth 65536 in
theorem w_args : argsFit about1.vm theMethod args0 = true := by decide +kernel
set_option maxRecDepth 65536 in
theorem w_heap : heapFits about1 = true := by decide +kernel
set_option maxRecDepth 65536 in
theorem w_runnable : about1.curStatus? = some .runnable := by decide +kernel
set_option maxRecDepth 65536 in
theorem w_alone : about1.alone = true := by decide +kernel
set_option maxRecDepth 65536 in
theorem w_named : about1.methodNamed? x = some theMethod := by decide +kernel
set_option maxRecDepth 65536 in
theorem w_hears : about1.hears theMethod below0 = true := by decide +kernel
set_option maxRecDepth 65536 in
theorem w_ripe : about1.ripe theMethod args0 below0 = true := by decide +kernel
theorem w_running : about1.status = .running := rfl
set_option maxRecDepth 65536 in
theorem w_room : about1.hasRoom e0.platform room_1 = true :=
  launch0.hasRoom_least _ room_1 (by decide +kernel) (by decide +kernel) (by decide +kernel) (by decide +kernel) (by decide +kernel) (by decide +kernel)
theorem allAtoms_all (ts : List Jvm.Cond) (a : Array Jvm.Value) (st : Jvm.State) : (allAtoms ts).before a st = ts.all (fun c => c.before a st) := by
  induction ts with
  | nil => rfl
  | cons c t ih =>
    show (Jvm.Cond.and c (allAtoms t)).before a st = _
    rw [Jvm.Cond.before_and, ih, List.all_cons]
def words1 : List Jvm.Cond := Jvm.Cond.code x code maxLocals ret :: tables_1
/-- a 'code' word, met by the world's own term for the bytes: nothing is compared byte by byte -/
theorem code_word {y : MethodName} {bytes : ByteArray} {mx : Nat} {rt : Option FieldType} {a : Array Value} {s : State} {m : MethodId} {meth : Method} {c : Code} (h1 : s.methodNamed? y = some m) (h2 : s.vm.method? m = some meth) (h3 : meth.code = some c) (h4 : c.code = bytes)
    (h5 : (c.maxLocals == mx && c.exceptionTable.isEmpty && decide (c.maxStack ≤ mostOperands) && decide (meth.sig.returnType = rt) && !meth.locks && decide (parseMethodDescriptor y.desc = some meth.sig)) = true) : (Jvm.Cond.code y bytes mx rt).before a s = true := by
  simp only [Bool.and_eq_true, beq_iff_eq, Bool.not_eq_true', decide_eq_true_eq] at h5
  obtain ⟨⟨⟨⟨⟨g1, g2⟩, g3⟩, g4⟩, g5⟩, g6⟩ := h5
  simp [Cond.before, Cond.holds, Cond.value, h1, h2, h3, h4, g1, g2, g3, g4, g5, g6]
def isCode : Jvm.Cond → Bool
  | .code _ _ _ _ => true
  | _ => false
theorem all_split {L : List Jvm.Cond} {P : Jvm.Cond → Bool} (h1 : L.all (fun c => isCode c || P c) = true) (h2 : ∀ c ∈ L.filter isCode, P c = true) : L.all P = true := by
  refine List.all_eq_true.mpr fun c hc => ?_
  have h := List.all_eq_true.mp h1 c hc
  rcases Bool.eq_false_or_eq_true (isCode c) with hi | hi
  · exact h2 c (List.mem_filter.mpr ⟨hc, hi⟩)
  · simpa [hi] using h
set_option maxRecDepth 65536 in
theorem w_c0 : (Jvm.Cond.code x code maxLocals ret).before args0 about1 = true := code_word (m := ⟨1, 2⟩) (meth := k1m2) (c := k1c2) (by decide +kernel) rfl rfl rfl (by decide +kernel)
set_option maxRecDepth 65536 in
theorem w_c1 : (Jvm.Cond.code ({ cls := "java/util/ArrayList", name := "<init>", desc := "()V" } : Jvm.MethodName) jdk_38_method_2_code (1 : Nat) (Option.none : Option Jvm.ClassFile.FieldType)).before args0 about1 = true := code_word (m := ⟨11, 0⟩) (meth := k11m0) (c := k11c0) (by decide +kernel) rfl rfl rfl (by decide +kernel)
set_option maxRecDepth 65536 in
theorem w_c2 : (Jvm.Cond.code ({ cls := "java/util/AbstractList", name := "<init>", desc := "()V" } : Jvm.MethodName) jdk_39_method_1_code (1 : Nat) (Option.none : Option Jvm.ClassFile.FieldType)).before args0 about1 = true := code_word (m := ⟨7, 0⟩) (meth := k7m0) (c := k7c0) (by decide +kernel) rfl rfl rfl (by decide +kernel)
set_option maxRecDepth 65536 in
theorem w_c3 : (Jvm.Cond.code ({ cls := "java/util/AbstractCollection", name := "<init>", desc := "()V" } : Jvm.MethodName) jdk_22_method_1_code (1 : Nat) (Option.none : Option Jvm.ClassFile.FieldType)).before args0 about1 = true := code_word (m := ⟨4, 0⟩) (meth := k4m0) (c := k4c0) (by decide +kernel) rfl rfl rfl (by decide +kernel)
set_option maxRecDepth 65536 in
theorem w_c4 : (Jvm.Cond.code ({ cls := "java/lang/Object", name := "<init>", desc := "()V" } : Jvm.MethodName) object_method_1_code (1 : Nat) (Option.none : Option Jvm.ClassFile.FieldType)).before args0 about1 = true := code_word (m := ⟨0, 0⟩) (meth := k0m0) (c := k0c0) (by decide +kernel) rfl rfl rfl (by decide +kernel)
set_option maxRecDepth 65536 in
theorem w_c5 : (Jvm.Cond.code ({ cls := "java/lang/Long", name := "valueOf", desc := "(J)Ljava/lang/Long;" } : Jvm.MethodName) jdk_35_method_24_code (3 : Nat) (Option.some (Jvm.ClassFile.FieldType.object "java/lang/Long"))).before args0 about1 = true := code_word (m := ⟨16, 0⟩) (meth := k16m0) (c := k16c0) (by decide +kernel) rfl rfl rfl (by decide +kernel)
set_option maxRecDepth 65536 in
theorem w_c6 : (Jvm.Cond.code ({ cls := "java/util/ArrayList", name := "add", desc := "(Ljava/lang/Object;)Z" } : Jvm.MethodName) jdk_38_method_25_code (2 : Nat) (Option.some Jvm.ClassFile.FieldType.boolean)).before args0 about1 = true := code_word (m := ⟨11, 6⟩) (meth := k11m6) (c := k11c6) (by decide +kernel) rfl rfl rfl (by decide +kernel)
set_option maxRecDepth 65536 in
theorem w_c7 : (Jvm.Cond.code ({ cls := "java/util/ArrayList", name := "add", desc := "(Ljava/lang/Object;[Ljava/lang/Object;I)V" } : Jvm.MethodName) jdk_38_method_24_code (4 : Nat) (Option.none : Option Jvm.ClassFile.FieldType)).before args0 about1 = true := code_word (m := ⟨11, 5⟩) (meth := k11m5) (c := k11c5) (by decide +kernel) rfl rfl rfl (by decide +kernel)
set_option maxRecDepth 65536 in
theorem w_c8 : (Jvm.Cond.code ({ cls := "java/util/ArrayList", name := "grow", desc := "()[Ljava/lang/Object;" } : Jvm.MethodName) jdk_38_method_7_code (1 : Nat) (Option.some (Jvm.ClassFile.FieldType.array (Jvm.ClassFile.FieldType.object "java/lang/Object")))).before args0 about1 = true := code_word (m := ⟨11, 2⟩) (meth := k11m2) (c := k11c2) (by decide +kernel) rfl rfl rfl (by decide +kernel)
set_option maxRecDepth 65536 in
theorem w_c9 : (Jvm.Cond.code ({ cls := "java/util/ArrayList", name := "grow", desc := "(I)[Ljava/lang/Object;" } : Jvm.MethodName) jdk_38_method_6_code (4 : Nat) (Option.some (Jvm.ClassFile.FieldType.array (Jvm.ClassFile.FieldType.object "java/lang/Object")))).before args0 about1 = true := code_word (m := ⟨11, 1⟩) (meth := k11m1) (c := k11c1) (by decide +kernel) rfl rfl rfl (by decide +kernel)
set_option maxRecDepth 65536 in
theorem w_c10 : (Jvm.Cond.code ({ cls := "java/lang/Math", name := "max", desc := "(II)I" } : Jvm.MethodName) jdk_29_method_65_code (2 : Nat) (Option.some Jvm.ClassFile.FieldType.int)).before args0 about1 = true := code_word (m := ⟨18, 1⟩) (meth := k18m1) (c := k18c1) (by decide +kernel) rfl rfl rfl (by decide +kernel)
set_option maxRecDepth 65536 in
theorem w_c11 : (Jvm.Cond.code ({ cls := "com/example/plus1/plus1/Take", name := "of", desc := "(Ljava/util/List;)Lcom/example/plus1/plus1/Take;" } : Jvm.MethodName) prog_5_method_2_code (1 : Nat) (Option.some (Jvm.ClassFile.FieldType.object "com/example/plus1/plus1/Take"))).before args0 about1 = true := code_word (m := ⟨19, 1⟩) (meth := k19m1) (c := k19c1) (by decide +kernel) rfl rfl rfl (by decide +kernel)
set_option maxRecDepth 65536 in
theorem w_c12 : (Jvm.Cond.code ({ cls := "java/util/ArrayList", name := "get", desc := "(I)Ljava/lang/Object;" } : Jvm.MethodName) jdk_38_method_20_code (2 : Nat) (Option.some (Jvm.ClassFile.FieldType.object "java/lang/Object"))).before args0 about1 = true := code_word (m := ⟨11, 4⟩) (meth := k11m4) (c := k11c4) (by decide +kernel) rfl rfl rfl (by decide +kernel)
set_option maxRecDepth 65536 in
theorem w_c13 : (Jvm.Cond.code ({ cls := "java/util/Objects", name := "checkIndex", desc := "(II)I" } : Jvm.MethodName) jdk_31_method_17_code (2 : Nat) (Option.some Jvm.ClassFile.FieldType.int)).before args0 about1 = true := code_word (m := ⟨20, 1⟩) (meth := k20m1) (c := k20c1) (by decide +kernel) rfl rfl rfl (by decide +kernel)
set_option maxRecDepth 65536 in
theorem w_c14 : (Jvm.Cond.code ({ cls := "jdk/internal/util/Preconditions", name := "checkIndex", desc := "(IILjava/util/function/BiFunction;)I" } : Jvm.MethodName) jdk_41_method_11_code (3 : Nat) (Option.some Jvm.ClassFile.FieldType.int)).before args0 about1 = true := code_word (m := ⟨21, 1⟩) (meth := k21m1) (c := k21c1) (by decide +kernel) rfl rfl rfl (by decide +kernel)
set_option maxRecDepth 65536 in
theorem w_c15 : (Jvm.Cond.code ({ cls := "java/util/ArrayList", name := "elementData", desc := "(I)Ljava/lang/Object;" } : Jvm.MethodName) jdk_38_method_18_code (2 : Nat) (Option.some (Jvm.ClassFile.FieldType.object "java/lang/Object"))).before args0 about1 = true := code_word (m := ⟨11, 3⟩) (meth := k11m3) (c := k11c3) (by decide +kernel) rfl rfl rfl (by decide +kernel)
set_option maxRecDepth 65536 in
theorem w_c16 : (Jvm.Cond.code ({ cls := "java/lang/Long", name := "longValue", desc := "()J" } : Jvm.MethodName) jdk_35_method_31_code (1 : Nat) (Option.some Jvm.ClassFile.FieldType.long)).before args0 about1 = true := code_word (m := ⟨16, 2⟩) (meth := k16m2) (c := k16c2) (by decide +kernel) rfl rfl rfl (by decide +kernel)
set_option maxRecDepth 65536 in
theorem w_c17 : (Jvm.Cond.code ({ cls := "com/example/plus1/plus1/Take", name := "of", desc := "(JJ)Lcom/example/plus1/plus1/Take;" } : Jvm.MethodName) prog_5_method_3_code (4 : Nat) (Option.some (Jvm.ClassFile.FieldType.object "com/example/plus1/plus1/Take"))).before args0 about1 = true := code_word (m := ⟨19, 2⟩) (meth := k19m2) (c := k19c2) (by decide +kernel) rfl rfl rfl (by decide +kernel)
set_option maxRecDepth 65536 in
theorem w_c18 : (Jvm.Cond.code ({ cls := "java/lang/Boolean", name := "valueOf", desc := "(Z)Ljava/lang/Boolean;" } : Jvm.MethodName) jdk_2055_method_5_code (1 : Nat) (Option.some (Jvm.ClassFile.FieldType.object "java/lang/Boolean"))).before args0 about1 = true := code_word (m := ⟨22, 1⟩) (meth := k22m1) (c := k22c1) (by decide +kernel) rfl rfl rfl (by decide +kernel)
set_option maxRecDepth 65536 in
theorem w_c19 : (Jvm.Cond.code ({ cls := "com/example/plus1/plus1/Take", name := "<init>", desc := "(JJLjava/lang/Boolean;)V" } : Jvm.MethodName) prog_5_method_1_code (6 : Nat) (Option.none : Option Jvm.ClassFile.FieldType)).before args0 about1 = true := code_word (m := ⟨19, 0⟩) (meth := k19m0) (c := k19c0) (by decide +kernel) rfl rfl rfl (by decide +kernel)
set_option maxRecDepth 65536 in
theorem w_c20 : (Jvm.Cond.code ({ cls := "com/example/plus1/plus1/Take", name := "holds", desc := "()J" } : Jvm.MethodName) prog_5_method_6_code (1 : Nat) (Option.some Jvm.ClassFile.FieldType.long)).before args0 about1 = true := code_word (m := ⟨19, 4⟩) (meth := k19m4) (c := k19c4) (by decide +kernel) rfl rfl rfl (by decide +kernel)
set_option maxRecDepth 65536 in
theorem w_c21 : (Jvm.Cond.code ({ cls := "com/example/plus1/plus1/Take", name := "taken", desc := "()Z" } : Jvm.MethodName) prog_5_method_5_code (1 : Nat) (Option.some Jvm.ClassFile.FieldType.boolean)).before args0 about1 = true := code_word (m := ⟨19, 3⟩) (meth := k19m3) (c := k19c3) (by decide +kernel) rfl rfl rfl (by decide +kernel)
set_option maxRecDepth 65536 in
theorem w_c22 : (Jvm.Cond.code ({ cls := "com/example/plus1/plus1/Take", name := "heldBefore", desc := "()Ljava/lang/Boolean;" } : Jvm.MethodName) prog_5_method_7_code (1 : Nat) (Option.some (Jvm.ClassFile.FieldType.object "java/lang/Boolean"))).before args0 about1 = true := code_word (m := ⟨19, 5⟩) (meth := k19m5) (c := k19c5) (by decide +kernel) rfl rfl rfl (by decide +kernel)
set_option maxRecDepth 65536 in
theorem w_c23 : (Jvm.Cond.code ({ cls := "java/lang/Boolean", name := "booleanValue", desc := "()Z" } : Jvm.MethodName) jdk_2055_method_4_code (1 : Nat) (Option.some Jvm.ClassFile.FieldType.boolean)).before args0 about1 = true := code_word (m := ⟨22, 0⟩) (meth := k22m0) (c := k22c0) (by decide +kernel) rfl rfl rfl (by decide +kernel)
set_option maxRecDepth 65536 in
theorem w_c24 : (Jvm.Cond.code ({ cls := "com/example/plus1/plus1/Take", name := "retryNanos", desc := "()J" } : Jvm.MethodName) prog_5_method_8_code (1 : Nat) (Option.some Jvm.ClassFile.FieldType.long)).before args0 about1 = true := code_word (m := ⟨19, 6⟩) (meth := k19m6) (c := k19c6) (by decide +kernel) rfl rfl rfl (by decide +kernel)
set_option maxRecDepth 65536 in
theorem w_c25 : (Jvm.Cond.code ({ cls := "java/util/concurrent/TimeUnit", name := "toNanos", desc := "(J)J" } : Jvm.MethodName) jdk_2799_method_7_code (7 : Nat) (Option.some Jvm.ClassFile.FieldType.long)).before args0 about1 = true := code_word (m := ⟨24, 0⟩) (meth := k24m0) (c := k24c0) (by decide +kernel) rfl rfl rfl (by decide +kernel)
set_option maxRecDepth 65536 in
theorem w_c26 : (Jvm.Cond.code ({ cls := "com/example/plus1/plus1/TakeOf189PinLaw", name := "expectedNanos", desc := "(J)J" } : Jvm.MethodName) method_2_code (4 : Nat) (Option.some Jvm.ClassFile.FieldType.long)).before args0 about1 = true := code_word (m := ⟨1, 1⟩) (meth := k1m1) (c := k1c1) (by decide +kernel) rfl rfl rfl (by decide +kernel)
set_option maxRecDepth 65536 in
theorem w_c27 : (Jvm.Cond.code ({ cls := "java/lang/Long", name := "<init>", desc := "(J)V" } : Jvm.MethodName) jdk_35_method_26_code (3 : Nat) (Option.none : Option Jvm.ClassFile.FieldType)).before args0 about1 = true := code_word (m := ⟨16, 1⟩) (meth := k16m1) (c := k16c1) (by decide +kernel) rfl rfl rfl (by decide +kernel)
set_option maxRecDepth 65536 in
theorem w_c28 : (Jvm.Cond.code ({ cls := "java/lang/Number", name := "<init>", desc := "()V" } : Jvm.MethodName) jdk_18_method_1_code (1 : Nat) (Option.none : Option Jvm.ClassFile.FieldType)).before args0 about1 = true := code_word (m := ⟨12, 0⟩) (meth := k12m0) (c := k12c0) (by decide +kernel) rfl rfl rfl (by decide +kernel)
def codes1 : List Jvm.Cond := [Jvm.Cond.code x code maxLocals ret, Jvm.Cond.code ({ cls := "java/util/ArrayList", name := "<init>", desc := "()V" } : Jvm.MethodName) jdk_38_method_2_code (1 : Nat) (Option.none : Option Jvm.ClassFile.FieldType), Jvm.Cond.code ({ cls := "java/util/AbstractList", name := "<init>", desc := "()V" } : Jvm.MethodName) jdk_39_method_1_code (1 : Nat) (Option.none : Option Jvm.ClassFile.FieldType), Jvm.Cond.code ({ cls := "java/util/AbstractCollection", name := "<init>", desc := "()V" } : Jvm.MethodName) jdk_22_method_1_code (1 : Nat) (Option.none : Option Jvm.ClassFile.FieldType), Jvm.Cond.code ({ cls := "java/lang/Object", name := "<init>", desc := "()V" } : Jvm.MethodName) object_method_1_code (1 : Nat) (Option.none : Option Jvm.ClassFile.FieldType), Jvm.Cond.code ({ cls := "java/lang/Long", name := "valueOf", desc := "(J)Ljava/lang/Long;" } : Jvm.MethodName) jdk_35_method_24_code (3 : Nat) (Option.some (Jvm.ClassFile.FieldType.object "java/lang/Long")), Jvm.Cond.code ({ cls := "java/util/ArrayList", name := "add", desc := "(Ljava/lang/Object;)Z" } : Jvm.MethodName) jdk_38_method_25_code (2 : Nat) (Option.some Jvm.ClassFile.FieldType.boolean), Jvm.Cond.code ({ cls := "java/util/ArrayList", name := "add", desc := "(Ljava/lang/Object;[Ljava/lang/Object;I)V" } : Jvm.MethodName) jdk_38_method_24_code (4 : Nat) (Option.none : Option Jvm.ClassFile.FieldType), Jvm.Cond.code ({ cls := "java/util/ArrayList", name := "grow", desc := "()[Ljava/lang/Object;" } : Jvm.MethodName) jdk_38_method_7_code (1 : Nat) (Option.some (Jvm.ClassFile.FieldType.array (Jvm.ClassFile.FieldType.object "java/lang/Object"))), Jvm.Cond.code ({ cls := "java/util/ArrayList", name := "grow", desc := "(I)[Ljava/lang/Object;" } : Jvm.MethodName) jdk_38_method_6_code (4 : Nat) (Option.some (Jvm.ClassFile.FieldType.array (Jvm.ClassFile.FieldType.object "java/lang/Object"))), Jvm.Cond.code ({ cls := "java/lang/Math", name := "max", desc := "(II)I" } : Jvm.MethodName) jdk_29_method_65_code (2 : Nat) (Option.some Jvm.ClassFile.FieldType.int), Jvm.Cond.code ({ cls := "com/example/plus1/plus1/Take", name := "of", desc := "(Ljava/util/List;)Lcom/example/plus1/plus1/Take;" } : Jvm.MethodName) prog_5_method_2_code (1 : Nat) (Option.some (Jvm.ClassFile.FieldType.object "com/example/plus1/plus1/Take")), Jvm.Cond.code ({ cls := "java/util/ArrayList", name := "get", desc := "(I)Ljava/lang/Object;" } : Jvm.MethodName) jdk_38_method_20_code (2 : Nat) (Option.some (Jvm.ClassFile.FieldType.object "java/lang/Object")), Jvm.Cond.code ({ cls := "java/util/Objects", name := "checkIndex", desc := "(II)I" } : Jvm.MethodName) jdk_31_method_17_code (2 : Nat) (Option.some Jvm.ClassFile.FieldType.int), Jvm.Cond.code ({ cls := "jdk/internal/util/Preconditions", name := "checkIndex", desc := "(IILjava/util/function/BiFunction;)I" } : Jvm.MethodName) jdk_41_method_11_code (3 : Nat) (Option.some Jvm.ClassFile.FieldType.int), Jvm.Cond.code ({ cls := "java/util/ArrayList", name := "elementData", desc := "(I)Ljava/lang/Object;" } : Jvm.MethodName) jdk_38_method_18_code (2 : Nat) (Option.some (Jvm.ClassFile.FieldType.object "java/lang/Object")), Jvm.Cond.code ({ cls := "java/lang/Long", name := "longValue", desc := "()J" } : Jvm.MethodName) jdk_35_method_31_code (1 : Nat) (Option.some Jvm.ClassFile.FieldType.long), Jvm.Cond.code ({ cls := "com/example/plus1/plus1/Take", name := "of", desc := "(JJ)Lcom/example/plus1/plus1/Take;" } : Jvm.MethodName) prog_5_method_3_code (4 : Nat) (Option.some (Jvm.ClassFile.FieldType.object "com/example/plus1/plus1/Take")), Jvm.Cond.code ({ cls := "java/lang/Boolean", name := "valueOf", desc := "(Z)Ljava/lang/Boolean;" } : Jvm.MethodName) jdk_2055_method_5_code (1 : Nat) (Option.some (Jvm.ClassFile.FieldType.object "java/lang/Boolean")), Jvm.Cond.code ({ cls := "com/example/plus1/plus1/Take", name := "<init>", desc := "(JJLjava/lang/Boolean;)V" } : Jvm.MethodName) prog_5_method_1_code (6 : Nat) (Option.none : Option Jvm.ClassFile.FieldType), Jvm.Cond.code ({ cls := "com/example/plus1/plus1/Take", name := "holds", desc := "()J" } : Jvm.MethodName) prog_5_method_6_code (1 : Nat) (Option.some Jvm.ClassFile.FieldType.long), Jvm.Cond.code ({ cls := "com/example/plus1/plus1/Take", name := "taken", desc := "()Z" } : Jvm.MethodName) prog_5_method_5_code (1 : Nat) (Option.some Jvm.ClassFile.FieldType.boolean), Jvm.Cond.code ({ cls := "com/example/plus1/plus1/Take", name := "heldBefore", desc := "()Ljava/lang/Boolean;" } : Jvm.MethodName) prog_5_method_7_code (1 : Nat) (Option.some (Jvm.ClassFile.FieldType.object "java/lang/Boolean")), Jvm.Cond.code ({ cls := "java/lang/Boolean", name := "booleanValue", desc := "()Z" } : Jvm.MethodName) jdk_2055_method_4_code (1 : Nat) (Option.some Jvm.ClassFile.FieldType.boolean), Jvm.Cond.code ({ cls := "com/example/plus1/plus1/Take", name := "retryNanos", desc := "()J" } : Jvm.MethodName) prog_5_method_8_code (1 : Nat) (Option.some Jvm.ClassFile.FieldType.long), Jvm.Cond.code ({ cls := "java/util/concurrent/TimeUnit", name := "toNanos", desc := "(J)J" } : Jvm.MethodName) jdk_2799_method_7_code (7 : Nat) (Option.some Jvm.ClassFile.FieldType.long), Jvm.Cond.code ({ cls := "com/example/plus1/plus1/TakeOf189PinLaw", name := "expectedNanos", desc := "(J)J" } : Jvm.MethodName) method_2_code (4 : Nat) (Option.some Jvm.ClassFile.FieldType.long), Jvm.Cond.code ({ cls := "java/lang/Long", name := "<init>", desc := "(J)V" } : Jvm.MethodName) jdk_35_method_26_code (3 : Nat) (Option.none : Option Jvm.ClassFile.FieldType), Jvm.Cond.code ({ cls := "java/lang/Number", name := "<init>", desc := "()V" } : Jvm.MethodName) jdk_18_method_1_code (1 : Nat) (Option.none : Option Jvm.ClassFile.FieldType)]
set_option maxRecDepth 65536 in
theorem codes_eq : words1.filter isCode = codes1 := rfl
theorem w_codes : ∀ c ∈ words1.filter isCode, c.before args0 about1 = true := by
  rw [codes_eq]
  intro c hc
  simp only [codes1, List.mem_cons, List.not_mem_nil, or_false] at hc
  rcases hc with rfl | rfl | rfl | rfl | rfl | rfl | rfl | rfl | rfl | rfl | rfl | rfl | rfl | rfl | rfl | rfl | rfl | rfl | rfl | rfl | rfl | rfl | rfl | rfl | rfl | rfl | rfl | rfl | rfl
  · exact w_c0
  · exact w_c1
  · exact w_c2
  · exact w_c3
  · exact w_c4
  · exact w_c5
  · exact w_c6
  · exact w_c7
  · exact w_c8
  · exact w_c9
  · exact w_c10
  · exact w_c11
  · exact w_c12
  · exact w_c13
  · exact w_c14
  · exact w_c15
  · exact w_c16
  · exact w_c17
  · exact w_c18
  · exact w_c19
  · exact w_c20
  · exact w_c21
  · exact w_c22
  · exact w_c23
  · exact w_c24
  · exact w_c25
  · exact w_c26
  · exact w_c27
  · exact w_c28
set_option maxRecDepth 65536 in
theorem w_t1 : (words1.take 24).all (fun c => isCode c || c.before args0 about1) = true := by decide +kernel
set_option maxRecDepth 65536 in
theorem w_t2 : ((words1.drop 24).take 24).all (fun c => isCode c || c.before args0 about1) = true := by decide +kernel
set_option maxRecDepth 65536 in
theorem w_t3 : (((words1.drop 24).drop 24).take 24).all (fun c => isCode c || c.before args0 about1) = true := by decide +kernel
set_option maxRecDepth 65536 in
theorem w_t4 : ((((words1.drop 24).drop 24).drop 24).take 24).all (fun c => isCode c || c.before args0 about1) = true := by decide +kernel
set_option maxRecDepth 65536 in
theorem w_t5 : (((((words1.drop 24).drop 24).drop 24).drop 24).take 24).all (fun c => isCode c || c.before args0 about1) = true := by decide +kernel
set_option maxRecDepth 65536 in
theorem w_t6 : ((((((words1.drop 24).drop 24).drop 24).drop 24).drop 24).take 24).all (fun c => isCode c || c.before args0 about1) = true := by decide +kernel
set_option maxRecDepth 65536 in
theorem w_t7 : (((((((words1.drop 24).drop 24).drop 24).drop 24).drop 24).drop 24).take 24).all (fun c => isCode c || c.before args0 about1) = true := by decide +kernel
set_option maxRecDepth 65536 in
theorem w_t8 : (((((((words1.drop 24).drop 24).drop 24).drop 24).drop 24).drop 24).drop 24).all (fun c => isCode c || c.before args0 about1) = true := by decide +kernel
theorem w_tables : (allAtoms (Jvm.Cond.code x code maxLocals ret :: tables_1)).before args0 about1 = true := by
  rw [allAtoms_all]
  show words1.all (fun c => c.before args0 about1) = true
  refine all_split ?_ w_codes
  rw [← List.take_append_drop 24 words1, List.all_append, w_t1, ← List.take_append_drop 24 (words1.drop 24), List.all_append, w_t2, ← List.take_append_drop 24 ((words1.drop 24).drop 24), List.all_append, w_t3, ← List.take_append_drop 24 (((words1.drop 24).drop 24).drop 24), List.all_append, w_t4, ← List.take_append_drop 24 ((((words1.drop 24).drop 24).drop 24).drop 24), List.all_append, w_t5, ← List.take_append_drop 24 (((((words1.drop 24).drop 24).drop 24).drop 24).drop 24), List.all_append, w_t6, ← List.take_append_drop 24 ((((((words1.drop 24).drop 24).drop 24).drop 24).drop 24).drop 24), List.all_append, w_t7, w_t8]
  rfl
set_option maxRecDepth 65536 in
theorem w_rest : rest_1_c.before args0 about1 = true := by decide +kernel
set_option maxRecDepth 65536 in
theorem w_case : (Jvm.Cond.and given_1 narrow_1).before args0 about1 = true := by decide +kernel
theorem w_applies : (headSpec (Jvm.Cond.code x code maxLocals ret :: tables_1) room_1).applies x e0.platform about1 = true :=
  (Spec.applies_iff w_frames).mpr ⟨w_running, w_runnable, w_alone, w_named, w_hears, w_ripe, w_room, w_tables⟩
theorem atStart : AtStart classFile x code maxLocals ret World_1 tables_1 room_1 Calls_1 rest_1 Pre_1 launch0 p0 e0 about1 theMethod args0 below0 :=
  ⟨lists_1, trivial, launch0.admits_env _ _ _, launch0.least_env, fairChoices_fair.cas, fairChoices_fair.clock, w_frames, w_args, w_heap, w_applies, trivial, w_rest, w_case⟩
end start1
theorem witness_1 : WitnessClaimed_1 := ⟨start1.p0, start1.e0, start1.about1, start1.theMethod, start1.args0, start1.below0, start1.atStart⟩
end Jvm.Pilot.@@N@@
