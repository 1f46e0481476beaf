import JvmDerived
import JvmDerived.Pilot.@@N@@Statement
import JvmDerived.Pilot.@@N@@Code
set_option linter.unusedVariables false
set_option linter.unusedSimpArgs false
namespace Jvm.Pilot.@@N@@
open Jvm Jvm.ClassFile Sem Op Lib Jvm.Free Jvm.Stand Jvm.LawKit Jvm.RoadKit Bundle Jvm.Pilot.@@N@@.Jvm.D
abbrev own_At (p : Program) (e : Env) (below : List Frame) (m : MethodId) (T : State) (pc : Nat) (ls : Array Slot) (st : List Value) (t : State) : Prop := Steps p.tables e below (T.setTop (mkF m pc ls st)) t
abbrev own_En (p : Program) (e : Env) (below : List Frame) (m : MethodId) (T : State) (a : Array Value) (n : Nat) (t : State) : Prop := Steps p.tables e below (T.setTop (entryFrame m a n)) t
theorem own_w {a0 : Array Value} {Z : State} (hw : ∀ d ∈ tables_1, d.before a0 Z = true) (i : Nat) {d : Jvm.Cond} (h : tables_1[i]? = some d) : d.before a0 Z = true := hw d (List.mem_of_getElem? h)
theorem own_eqI {t : Term} {k : Int32} {args : Array Value} {s : State} (h : (Jvm.Cond.eq t (.int k)).value args s none s [] = some true) : t.eval args s none [] s = some (.int k) := by
  have e : (Term.int k).eval args s none [] s = some (.int k) := rfl
  simp only [Cond.value, e] at h
  cases ht : t.eval args s none [] s with
  | none => simp [ht] at h
  | some x => cases x <;> simp [ht] at h ⊢; exact h
theorem own_neI {t : Term} {k z : Int32} {args : Array Value} {s : State} (e : t.eval args s none [] s = some (.int z)) (h : (Jvm.Cond.not (Jvm.Cond.eq t (.int k))).value args s none s [] = some true) : ¬ (z = k) := by
  have q := not_v h
  have e2 : (Term.int k).eval args s none [] s = some (.int k) := rfl
  simp only [Cond.value, e, e2, Bool.not_true, Option.some.injEq, decide_eq_false_iff_not] at q
  exact q
theorem own_neR {t u : Term} {a b : Addr} {args : Array Value} {s : State} (ea : t.eval args s none [] s = some (.ref a)) (eb : u.eval args s none [] s = some (.ref b)) (h : (Jvm.Cond.not (Jvm.Cond.eq t u)).value args s none s [] = some true) : ¬ (a = b) := by
  have q := not_v h
  rw [eq_R ea eb rfl rfl] at q
  intro e
  rw [e] at q
  simp at q
theorem own_eqJ {t : Term} {k : Int64} {args : Array Value} {s : State} (h : (Jvm.Cond.eq t (.long k)).value args s none s [] = some true) : t.eval args s none [] s = some (.long k) := by
  have e : (Term.long k).eval args s none [] s = some (.long k) := rfl
  simp only [Cond.value, e] at h
  cases ht : t.eval args s none [] s with
  | none => simp [ht] at h
  | some x => cases x <;> simp [ht] at h ⊢; exact h
theorem own_len {t : Term} {n : Int32} {a : Addr} {cl : Cell} {ty : FieldType} {args : Array Value} {s : State} (ev : t.eval args s none [] s = some (.ref a)) (A : Arr s s.heap a cl ty) (h : (Jvm.Cond.eq (.length t) (.int n)).value args s none s [] = some true) : cl.slots.size < 2 ^ 31 ∧ cl.slots.size.toInt32 = n := by
  have q := own_eqI h
  have hA := A.fin (Vm.Alike.refl _)
  simp only [Term.eval, ev, hA, Option.bind_eq_bind, Option.bind_some] at q
  split at q
  · rename_i hl
    exact ⟨hl, Value.int.inj (Option.some.inj q)⟩
  · cases q
theorem own_elem {t : Term} {j : Int32} {a : Addr} {v : Value} {cl : Cell} {ty : FieldType} {args : Array Value} {s : State} (ev : t.eval args s none [] s = some (.ref a)) (A : Arr s s.heap a cl ty) (h : (Term.elem t (.int j)).eval args s none [] s = some v) (i : Nat) (hi : j.toNatClampNeg = i) : cl.slots[i]? = some v := by
  have q := (elem_in h ev (rfl : (Term.int j).eval args s none [] s = some (.int j)) A.1).2
  rw [hi] at q; exact q
/-- an array as it stood at the start, that may be cloned -/
def own_Cln (Z : State) (h : Heap) (a : Addr) (ty : FieldType) (n : Int32) (vs : List Value) (d : Value) : Prop := ∃ c : Cell, Arr Z h a c ty ∧ FitC Z c ∧ c.slots.size = n.toNatClampNeg ∧ ¬ n < 0 ∧ Has c vs d ∧ ∀ i, i < c.slots.size → fits ty (vs.getD i d) = true
theorem own_Cln.ext {Z : State} {h h' : Heap} {a : Addr} {ty : FieldType} {n : Int32} {vs : List Value} {d : Value} (F : own_Cln Z h a ty n vs d) (E : Ext h h') : own_Cln Z h' a ty n vs d := by
  obtain ⟨c, A, r⟩ := F; exact ⟨c, A.ext E, r⟩
theorem own_Cln.start {Z : State} {a : Addr} {cl : Cell} {ty : FieldType} {z : Int32} {vs : List Value} {dv : Value} (hf : Fit Z) (A : Arr Z Z.heap a cl ty) (q : cl.slots.size < 2 ^ 31 ∧ cl.slots.size.toInt32 = z) (hz : ¬ z < 0) (hl : z.toNatClampNeg = vs.length) (H : HasL cl 0 vs) : own_Cln Z Z.heap a ty z vs dv := by
  have S : cl.slots.size = z.toNatClampNeg := by rw [← q.2]; simp only [Int32.toNatClampNeg, len_toInt q.1]; rfl
  have H' : Has cl vs dv := fun j hj => by have := HasL.at (dv := dv) vs 0 H j (by rw [← hl, ← S]; exact hj); rwa [Nat.zero_add] at this
  refine ⟨cl, A, FitC.start hf A, S, hz, H', fun j hj => ?_⟩
  have e1 : (Nat.toInt32 j).toNatClampNeg = j := by simp only [Int32.toNatClampNeg, len_toInt (Nat.lt_trans hj q.1)]; rfl
  exact elem_fits (j := Nat.toInt32 j) hf A (idx_in hj q.1) (by rw [e1]; exact H' j hj)
theorem own_Cln.arv {Z : State} {h : Heap} {a : Addr} {ty : FieldType} {n : Int32} {vs : List Value} {d : Value} (F : own_Cln Z h a ty n vs d) : ∃ k, Arv Z h a k ty n vs d := by
  obtain ⟨c, A, -, r⟩ := F; exact ⟨c.cls, c, A, rfl, r⟩
theorem own_eqR {t u : Term} {b : Addr} {args : Array Value} {s : State} (h : (Jvm.Cond.eq t u).value args s none s [] = some true) (e : u.eval args s none [] s = some (.ref b)) : t.eval args s none [] s = some (.ref b) := by
  simp only [Cond.value, e] at h
  cases ht : t.eval args s none [] s with
  | none => simp [ht] at h
  | some x => cases x <;> simp [ht] at h ⊢; exact h
theorem own_dup2L {tb : Tables} [Ours tb] {e : Env} {below : List Frame} {T target : State} {m : MethodId} {c : Code} {g : JFrame} (h : At T m c below) (hx : tb.exec = Jvm.exec) (hg : g.method = m) {x : Int64} {rest : List Value} (hd : decode c.code g.pc = .ok (.dup2, 1)) (hs : g.stack = .long x :: rest) (hr : Steps tb e below (T.setTop { g with pc := g.pc + 1, stack := .long x :: .long x :: rest }) target) : Steps tb e below (T.setTop g) target := by
  subst hg
  jvm_step h [h.top, hx, hd, hs, Value.category]
  exact hr
def EV (Z : State) (a_PATH_NOT_FOUND : Addr) (a_METHOD_NOT_ALLOWED : Addr) (a_UNSUPPORTED_MEDIA_TYPE : Addr) (a_EXPECTATION_FAILED : Addr) (a_NOT_IMPLEMENTED : Addr) (a_HTTP_VERSION_NOT_SUPPORTED : Addr) (a_MALFORMED_REQUEST : Addr) (a_INTERNAL_ERROR : Addr) : Prop := Sta Z Z.heap "com/example/kwota/kwota/server/ErrorReason" "PATH_NOT_FOUND" "Lcom/example/kwota/kwota/server/ErrorReason;" (.ref a_PATH_NOT_FOUND) ∧ Exa Z Z.heap a_PATH_NOT_FOUND "com/example/kwota/kwota/server/ErrorReason" ∧ Sta Z Z.heap "com/example/kwota/kwota/server/ErrorReason" "METHOD_NOT_ALLOWED" "Lcom/example/kwota/kwota/server/ErrorReason;" (.ref a_METHOD_NOT_ALLOWED) ∧ Exa Z Z.heap a_METHOD_NOT_ALLOWED "com/example/kwota/kwota/server/ErrorReason" ∧ Sta Z Z.heap "com/example/kwota/kwota/server/ErrorReason" "UNSUPPORTED_MEDIA_TYPE" "Lcom/example/kwota/kwota/server/ErrorReason;" (.ref a_UNSUPPORTED_MEDIA_TYPE) ∧ Exa Z Z.heap a_UNSUPPORTED_MEDIA_TYPE "com/example/kwota/kwota/server/ErrorReason" ∧ Sta Z Z.heap "com/example/kwota/kwota/server/ErrorReason" "EXPECTATION_FAILED" "Lcom/example/kwota/kwota/server/ErrorReason;" (.ref a_EXPECTATION_FAILED) ∧ Exa Z Z.heap a_EXPECTATION_FAILED "com/example/kwota/kwota/server/ErrorReason" ∧ Sta Z Z.heap "com/example/kwota/kwota/server/ErrorReason" "NOT_IMPLEMENTED" "Lcom/example/kwota/kwota/server/ErrorReason;" (.ref a_NOT_IMPLEMENTED) ∧ Exa Z Z.heap a_NOT_IMPLEMENTED "com/example/kwota/kwota/server/ErrorReason" ∧ Sta Z Z.heap "com/example/kwota/kwota/server/ErrorReason" "HTTP_VERSION_NOT_SUPPORTED" "Lcom/example/kwota/kwota/server/ErrorReason;" (.ref a_HTTP_VERSION_NOT_SUPPORTED) ∧ Exa Z Z.heap a_HTTP_VERSION_NOT_SUPPORTED "com/example/kwota/kwota/server/ErrorReason" ∧ Sta Z Z.heap "com/example/kwota/kwota/server/ErrorReason" "MALFORMED_REQUEST" "Lcom/example/kwota/kwota/server/ErrorReason;" (.ref a_MALFORMED_REQUEST) ∧ Exa Z Z.heap a_MALFORMED_REQUEST "com/example/kwota/kwota/server/ErrorReason" ∧ Sta Z Z.heap "com/example/kwota/kwota/server/ErrorReason" "INTERNAL_ERROR" "Lcom/example/kwota/kwota/server/ErrorReason;" (.ref a_INTERNAL_ERROR) ∧ Exa Z Z.heap a_INTERNAL_ERROR "com/example/kwota/kwota/server/ErrorReason" ∧ Fld Z Z.heap a_EXPECTATION_FAILED "java/lang/Enum" "ordinal" "I" (.int (21 : Int32)) ∧ Fld Z Z.heap a_PATH_NOT_FOUND "java/lang/Enum" "ordinal" "I" (.int (14 : Int32)) ∧ Fld Z Z.heap a_METHOD_NOT_ALLOWED "java/lang/Enum" "ordinal" "I" (.int (19 : Int32)) ∧ Fld Z Z.heap a_UNSUPPORTED_MEDIA_TYPE "java/lang/Enum" "ordinal" "I" (.int (20 : Int32)) ∧ Fld Z Z.heap a_MALFORMED_REQUEST "java/lang/Enum" "ordinal" "I" (.int (6 : Int32)) ∧ Fld Z Z.heap a_NOT_IMPLEMENTED "java/lang/Enum" "ordinal" "I" (.int (24 : Int32)) ∧ Fld Z Z.heap a_HTTP_VERSION_NOT_SUPPORTED "java/lang/Enum" "ordinal" "I" (.int (26 : Int32)) ∧ Fld Z Z.heap a_INTERNAL_ERROR "java/lang/Enum" "ordinal" "I" (.int (23 : Int32))
theorem ef_ofs_lo (m : MethodId) (x0 : Int32)  : entryFrame m #[(.int x0)] 1 = mkF m 0 #[.val (.int x0)] [] := by first | (simp [entryFrame, mkF, argsToLocals, Value.category]; done) | rfl
theorem d_prog_59_method_4_code_0 : decode prog_59_method_4_code 0 = .ok (.iload_n 0, 1) := by decide +kernel
theorem own_lsw {tb : Tables} [Ours tb] {e : Env} {below : List Frame} {T target : State} {m : MethodId} {c : Code} {g : JFrame} (h : At T m c below) (hx : tb.exec = Jvm.exec) (hg : g.method = m) {dflt : Int} {pairs : Array (Int × Int)} {len : Nat} {o : Int} {pc0 pc' : Nat} (hpc : g.pc = pc0) (hd : decode c.code g.pc = .ok (.lookupswitch dflt pairs, len)) {i : Int32} {rest : List Value} (hs : g.stack = .int i :: rest)
    (hsort : (pairs.toList.zip (pairs.toList.drop 1)).all (fun (a, next) => a.1 < next.1) = true) (hoff : lookupswitch.offset pairs.toList dflt i.toInt = o) (ho : 0 ≤ (pc0 : Int) + o) (hp : ((pc0 : Int) + o).toNat = pc')
    (hr : Steps tb e below (T.setTop { g with pc := pc', stack := rest }) target) : Steps tb e below (T.setTop g) target := by
  subst hg hpc hp
  jvm_step h [h.top, hx, hd, hs, hsort, hoff, ho, lookupswitch.wp_chain]
  first | exact hr | exact ⟨by simpa using hsort, hr⟩
theorem own_ne32 {a : Int32} {k : Int} {b : Int32} (h : ¬ (a = b)) (e : b.toInt = k := by decide) : (k = a.toInt) = False := eq_false fun q => h (Int32.toInt_inj.mp (q.symm.trans e.symm))
theorem d_prog_59_method_4_code_1 : decode prog_59_method_4_code 1 = .ok (.lookupswitch 83 #[(404, 59), (405, 63), (415, 67), (417, 71), (501, 75), (505, 79)], 59) := by decide +kernel
theorem d_prog_59_method_4_code_84 : decode prog_59_method_4_code 84 = .ok (.iload_n 0, 1) := by decide +kernel
theorem d_prog_59_method_4_code_85 : decode prog_59_method_4_code 85 = .ok (.sipush 500, 3) := by decide +kernel
theorem d_prog_59_method_4_code_88 : decode prog_59_method_4_code 88 = .ok (.if_icmp .lt 9, 3) := by decide +kernel
theorem d_prog_59_method_4_code_97 : decode prog_59_method_4_code 97 = .ok (.getstatic 22, 3) := by decide +kernel
theorem d_prog_59_method_4_code_100 : decode prog_59_method_4_code 100 = .ok (.areturn, 1) := by decide +kernel
theorem pn_com_example_kwota_kwota_server_ErrorReason : plainName "com/example/kwota/kwota/server/ErrorReason" = true := by first | (simp [plainName, overriddenIn]; done) | decide +kernel
abbrev own_m0 : MethodName := ⟨"com/example/kwota/kwota/server/ErrorReason", "ofStatus", "(I)Lcom/example/kwota/kwota/server/ErrorReason;"⟩
def Q_ofs_lo (Z : State) (p0 : Int32) (a_PATH_NOT_FOUND : Addr) (a_METHOD_NOT_ALLOWED : Addr) (a_UNSUPPORTED_MEDIA_TYPE : Addr) (a_EXPECTATION_FAILED : Addr) (a_NOT_IMPLEMENTED : Addr) (a_HTTP_VERSION_NOT_SUPPORTED : Addr) (a_MALFORMED_REQUEST : Addr) (a_INTERNAL_ERROR : Addr) (h0 : Heap) (n0 : Nat) (v : Option Value) (h : Heap) (L : List Loc) : Prop := v = some (.ref a_MALFORMED_REQUEST) ∧ Fr n0 L ∧ h = h0
set_option maxRecDepth 65536 in
set_option maxHeartbeats 40000000 in
theorem rm_ofs_lo (l : Launch) (Z : State) (a0 : Array Value) (hw : ∀ d ∈ tables_1, d.before a0 Z = true) (ws : List Jvm.Cond) (p0 : Int32) (a_PATH_NOT_FOUND : Addr) (a_METHOD_NOT_ALLOWED : Addr) (a_UNSUPPORTED_MEDIA_TYPE : Addr) (a_EXPECTATION_FAILED : Addr) (a_NOT_IMPLEMENTED : Addr) (a_HTTP_VERSION_NOT_SUPPORTED : Addr) (a_MALFORMED_REQUEST : Addr) (a_INTERNAL_ERROR : Addr) (h0 : Heap) (n0 : Nat) (O0 : Old Z n0 h0) (hE : EV Z a_PATH_NOT_FOUND a_METHOD_NOT_ALLOWED a_UNSUPPORTED_MEDIA_TYPE a_EXPECTATION_FAILED a_NOT_IMPLEMENTED a_HTTP_VERSION_NOT_SUPPORTED a_MALFORMED_REQUEST a_INTERNAL_ERROR) (n404 : ¬ (p0 = (404 : Int32))) (n405 : ¬ (p0 = (405 : Int32))) (n415 : ¬ (p0 = (415 : Int32))) (n417 : ¬ (p0 = (417 : Int32))) (n501 : ¬ (p0 = (501 : Int32))) (n505 : ¬ (p0 = (505 : Int32))) (hlt : (p0 < (500 : Int32))) :
    MetFree l own_m0 (head1 (Jvm.Cond.code own_m0 prog_59_method_4_code 1 (some (.object "com/example/kwota/kwota/server/ErrorReason")) :: ws) ({ frames := 0, cells := 0, slots := 0, locals := 0 } : Room)) (fun a U => a = #[(.int p0)] ∧ Z.Warmed39 U.vm ∧ U.heap = h0) (fun _ _ _ _ _ => True) (fun _ U o U' => ∃ v L, o = .returned v ∧ Q_ofs_lo Z p0 a_PATH_NOT_FOUND a_METHOD_NOT_ALLOWED a_UNSUPPORTED_MEDIA_TYPE a_EXPECTATION_FAILED a_NOT_IMPLEMENTED a_HTTP_VERSION_NOT_SUPPORTED a_MALFORMED_REQUEST a_INTERNAL_ERROR h0 n0 v U'.heap L ∧ FrameEnd U o U' L ({ frames := 0, cells := 0, slots := 0, locals := 0 } : Room).cells ({ frames := 0, cells := 0, slots := 0, locals := 0 } : Room).slots) := by
  refine MetFree.of_bodySF (plainFor_of_name pn_com_example_kwota_kwota_server_ErrorReason) hisR ?_
  intro p e s m args below meth c s₁ Bd hml0 hP hK
  obtain ⟨rfl, hZ, hh⟩ := hP
  have hx := Bd.exec
  have hby := Bd.bytes
  have hml : c.maxLocals = 1 := hml0
  have hown : s.vm.findClass "com/example/kwota/kwota/server/ErrorReason" = some m.cls := findClass_of_methodNamed Bd.named
  have hnm := (name_of_methodNamed Bd.named Bd.method).1
  have X0 : Stand p l e ({ frames := 0, cells := 0, slots := 0, locals := 0 } : Room) s m #[(.int p0)] below meth c s₁ [] 0 0 := Stand.of_body Bd
  have e0 : s₁.heap = h0 := by rw [← hh, Bd.state]; rfl
  have N0 := Fr.nil n0
  refine Classical.byContradiction fun hNG => ?_
  have K0 := Keep.refl h0 []
  have k0 : ∀ t, own_At p e below m s₁ 0 #[.val (.int p0)] [] t → own_En p e below m s₁ #[(.int p0)] 1 t := fun t k => castTop (ef_ofs_lo m p0 ) k
  obtain ⟨S_PATH_NOT_FOUND, E_PATH_NOT_FOUND, S_METHOD_NOT_ALLOWED, E_METHOD_NOT_ALLOWED, S_UNSUPPORTED_MEDIA_TYPE, E_UNSUPPORTED_MEDIA_TYPE, S_EXPECTATION_FAILED, E_EXPECTATION_FAILED, S_NOT_IMPLEMENTED, E_NOT_IMPLEMENTED, S_HTTP_VERSION_NOT_SUPPORTED, E_HTTP_VERSION_NOT_SUPPORTED, S_MALFORMED_REQUEST, E_MALFORMED_REQUEST, S_INTERNAL_ERROR, E_INTERNAL_ERROR, F_EXPECTATION_FAILED_ordinal, F_PATH_NOT_FOUND_ordinal, F_METHOD_NOT_ALLOWED_ordinal, F_UNSUPPORTED_MEDIA_TYPE_ordinal, F_MALFORMED_REQUEST_ordinal, F_NOT_IMPLEMENTED_ordinal, F_HTTP_VERSION_NOT_SUPPORTED_ordinal, F_INTERNAL_ERROR_ordinal⟩ := (id hE : EV Z a_PATH_NOT_FOUND a_METHOD_NOT_ALLOWED a_UNSUPPORTED_MEDIA_TYPE a_EXPECTATION_FAILED a_NOT_IMPLEMENTED a_HTTP_VERSION_NOT_SUPPORTED a_MALFORMED_REQUEST a_INTERNAL_ERROR)
  have k1 : ∀ t, own_At p e below m s₁ 1 #[.val (.int p0)] [(.int p0)] t → own_En p e below m s₁ #[(.int p0)] 1 t := by
    intro t k
    refine k0 t ?_
    refine XS.iloadN X0.here hx rfl (hb hby d_prog_59_method_4_code_0) rfl ?_
    show own_At p e below m s₁ 1 #[.val (.int p0)] [(.int p0)] t
    exact k
  obtain ⟨T2, X2, e2, st2⟩ := getS2 X0 hx hZ hown (host := "") (Or.inl (own_w hw 30 rfl)) Via.refl e0 (S_MALFORMED_REQUEST.ext O0.2) (g := (mkF m 97 #[.val (.int p0)] [])) rfl (hb hby d_prog_59_method_4_code_97)
  have k3 : ∀ t, own_At p e below m T2 100 #[.val (.int p0)] [(.ref a_MALFORMED_REQUEST)] t → own_En p e below m s₁ #[(.int p0)] 1 t := by
    intro t k
    refine k1 t ?_
    refine own_lsw X0.here hx rfl (pc0 := 1) (pc' := 84) rfl (hb hby d_prog_59_method_4_code_1) rfl (by decide) (o := 83) (by simp only [lookupswitch.offset_cons, lookupswitch.offset_nil, own_ne32 (k := 404) n404, own_ne32 (k := 405) n405, own_ne32 (k := 415) n415, own_ne32 (k := 417) n417, own_ne32 (k := 501) n501, own_ne32 (k := 505) n505, if_false]) (by decide) (by decide) ?_
    show own_At p e below m s₁ 84 #[.val (.int p0)] [] t
    refine XS.iloadN X0.here hx rfl (hb hby d_prog_59_method_4_code_84) rfl ?_
    show own_At p e below m s₁ 85 #[.val (.int p0)] [(.int p0)] t
    refine XS.sipush X0.here hx rfl (hb hby d_prog_59_method_4_code_85) ?_
    show own_At p e below m s₁ 88 #[.val (.int p0)] [(.int (500 : Int32)), (.int p0)] t
    refine XS.icmpYes X0.here hx rfl (pc0 := 88) (pc' := 97) rfl (hb hby d_prog_59_method_4_code_88) rfl (tlt hlt).1 (by decide) (by decide) ?_
    show own_At p e below m s₁ 97 #[.val (.int p0)] [] t
    refine st2 _ ?_
    show own_At p e below m T2 100 #[.val (.int p0)] [(.ref a_MALFORMED_REQUEST)] t
    exact k
  obtain ⟨fs, hr, hrun, hended, hW, hsame⟩ := X2.leave (v := some (.ref a_MALFORMED_REQUEST)) (fun h => by rw [Bd.returns] at h; cases h)
  refine hNG ⟨_, _, k3 _ ?_, hrun, hended, _, _, rfl, ?_, ⟨_, rfl⟩, hW, hsame.mono (by decide) (by decide)⟩
  · exact retOut X2 hx (t := (.object "com/example/kwota/kwota/server/ErrorReason")) Bd.returns rfl (Or.inr (Or.inr (Or.inr (Or.inr ⟨rfl, rfl, rfl⟩)))) (hb hby d_prog_59_method_4_code_100) hr
  · show Q_ofs_lo Z p0 a_PATH_NOT_FOUND a_METHOD_NOT_ALLOWED a_UNSUPPORTED_MEDIA_TYPE a_EXPECTATION_FAILED a_NOT_IMPLEMENTED a_HTTP_VERSION_NOT_SUPPORTED a_MALFORMED_REQUEST a_INTERNAL_ERROR h0 n0 _ T2.heap _
    rw [e2]
    exact ⟨rfl, N0, rfl⟩
theorem ef_fits_lo (m : MethodId) (x0 : Int32)  : entryFrame m #[(.int x0)] 3 = mkF m 0 #[.val (.int x0), .unset, .unset] [] := by first | (simp [entryFrame, mkF, argsToLocals, Value.category]; done) | rfl
theorem d_method_3_code_0 : decode method_3_code 0 = .ok (.iload_n 0, 1) := by decide +kernel
theorem d_method_3_code_1 : decode method_3_code 1 = .ok (.invokestatic 34, 3) := by decide +kernel
theorem pd__I_Lcom_example_kwota_kwota_server_ErrorReason_ : parseMethodDescriptor "(I)Lcom/example/kwota/kwota/server/ErrorReason;" = some ⟨[.int], some (.object "com/example/kwota/kwota/server/ErrorReason")⟩ := by decide +kernel
theorem d_method_3_code_4 : decode method_3_code 4 = .ok (.astore_n 1, 1) := by decide +kernel
theorem d_method_3_code_5 : decode method_3_code 5 = .ok (.aload_n 1, 1) := by decide +kernel
theorem d_method_3_code_6 : decode method_3_code 6 = .ok (.invokestatic 38, 3) := by decide +kernel
theorem ef_f1 (m : MethodId) (x0 : Addr)  : entryFrame m #[(.ref x0)] 1 = mkF m 0 #[.val (.ref x0)] [] := by first | (simp [entryFrame, mkF, argsToLocals, Value.category]; done) | rfl
theorem d_method_2_code_0 : decode method_2_code 0 = .ok (.aload_n 0, 1) := by decide +kernel
theorem d_method_2_code_1 : decode method_2_code 1 = .ok (.getstatic 7, 3) := by decide +kernel
theorem d_method_2_code_4 : decode method_2_code 4 = .ok (.if_acmp .ne 7, 3) := by decide +kernel
theorem d_method_2_code_11 : decode method_2_code 11 = .ok (.aload_n 0, 1) := by decide +kernel
theorem d_method_2_code_12 : decode method_2_code 12 = .ok (.getstatic 13, 3) := by decide +kernel
theorem d_method_2_code_15 : decode method_2_code 15 = .ok (.if_acmp .ne 7, 3) := by decide +kernel
theorem d_method_2_code_22 : decode method_2_code 22 = .ok (.aload_n 0, 1) := by decide +kernel
theorem d_method_2_code_23 : decode method_2_code 23 = .ok (.getstatic 16, 3) := by decide +kernel
theorem d_method_2_code_26 : decode method_2_code 26 = .ok (.if_acmp .ne 7, 3) := by decide +kernel
theorem d_method_2_code_33 : decode method_2_code 33 = .ok (.aload_n 0, 1) := by decide +kernel
theorem d_method_2_code_34 : decode method_2_code 34 = .ok (.getstatic 19, 3) := by decide +kernel
theorem d_method_2_code_37 : decode method_2_code 37 = .ok (.if_acmp .ne 7, 3) := by decide +kernel
theorem d_method_2_code_44 : decode method_2_code 44 = .ok (.aload_n 0, 1) := by decide +kernel
theorem d_method_2_code_45 : decode method_2_code 45 = .ok (.getstatic 22, 3) := by decide +kernel
theorem d_method_2_code_48 : decode method_2_code 48 = .ok (.if_acmp .ne 7, 3) := by decide +kernel
theorem d_method_2_code_55 : decode method_2_code 55 = .ok (.aload_n 0, 1) := by decide +kernel
theorem d_method_2_code_56 : decode method_2_code 56 = .ok (.getstatic 25, 3) := by decide +kernel
theorem d_method_2_code_59 : decode method_2_code 59 = .ok (.if_acmp .ne 7, 3) := by decide +kernel
theorem d_method_2_code_66 : decode method_2_code 66 = .ok (.aload_n 0, 1) := by decide +kernel
theorem d_method_2_code_67 : decode method_2_code 67 = .ok (.getstatic 28, 3) := by decide +kernel
theorem d_method_2_code_70 : decode method_2_code 70 = .ok (.if_acmp .ne 7, 3) := by decide +kernel
theorem d_method_2_code_73 : decode method_2_code 73 = .ok (.sipush 400, 3) := by decide +kernel
theorem d_method_2_code_76 : decode method_2_code 76 = .ok (.ireturn, 1) := by decide +kernel
theorem pn_com_example_kwota_kwota_server_ErrorReasonOfStatusPinLaw : plainName "com/example/kwota/kwota/server/ErrorReasonOfStatusPinLaw" = true := by first | (simp [plainName, overriddenIn]; done) | decide +kernel
abbrev own_m1 : MethodName := ⟨"com/example/kwota/kwota/server/ErrorReasonOfStatusPinLaw", "statusOf", "(Lcom/example/kwota/kwota/server/ErrorReason;)I"⟩
def Q_f1 (Z : State) (a_PATH_NOT_FOUND : Addr) (a_METHOD_NOT_ALLOWED : Addr) (a_UNSUPPORTED_MEDIA_TYPE : Addr) (a_EXPECTATION_FAILED : Addr) (a_NOT_IMPLEMENTED : Addr) (a_HTTP_VERSION_NOT_SUPPORTED : Addr) (a_MALFORMED_REQUEST : Addr) (a_INTERNAL_ERROR : Addr) (h0 : Heap) (n0 : Nat) (v : Option Value) (h : Heap) (L : List Loc) : Prop := v = some (.int (400 : Int32)) ∧ Fr n0 L ∧ h = h0
set_option maxRecDepth 65536 in
set_option maxHeartbeats 40000000 in
theorem rm_f1 (l : Launch) (Z : State) (a0 : Array Value) (hw : ∀ d ∈ tables_1, d.before a0 Z = true) (ws : List Jvm.Cond) (a_PATH_NOT_FOUND : Addr) (a_METHOD_NOT_ALLOWED : Addr) (a_UNSUPPORTED_MEDIA_TYPE : Addr) (a_EXPECTATION_FAILED : Addr) (a_NOT_IMPLEMENTED : Addr) (a_HTTP_VERSION_NOT_SUPPORTED : Addr) (a_MALFORMED_REQUEST : Addr) (a_INTERNAL_ERROR : Addr) (h0 : Heap) (n0 : Nat) (O0 : Old Z n0 h0) (hE : EV Z a_PATH_NOT_FOUND a_METHOD_NOT_ALLOWED a_UNSUPPORTED_MEDIA_TYPE a_EXPECTATION_FAILED a_NOT_IMPLEMENTED a_HTTP_VERSION_NOT_SUPPORTED a_MALFORMED_REQUEST a_INTERNAL_ERROR) :
    MetFree l own_m1 (head1 (Jvm.Cond.code own_m1 method_2_code 1 (some .int) :: ws) ({ frames := 0, cells := 0, slots := 0, locals := 0 } : Room)) (fun a U => a = #[(.ref a_MALFORMED_REQUEST)] ∧ Z.Warmed39 U.vm ∧ U.heap = h0) (fun _ _ _ _ _ => True) (fun _ U o U' => ∃ v L, o = .returned v ∧ Q_f1 Z a_PATH_NOT_FOUND a_METHOD_NOT_ALLOWED a_UNSUPPORTED_MEDIA_TYPE a_EXPECTATION_FAILED a_NOT_IMPLEMENTED a_HTTP_VERSION_NOT_SUPPORTED a_MALFORMED_REQUEST a_INTERNAL_ERROR h0 n0 v U'.heap L ∧ FrameEnd U o U' L ({ frames := 0, cells := 0, slots := 0, locals := 0 } : Room).cells ({ frames := 0, cells := 0, slots := 0, locals := 0 } : Room).slots) := by
  refine MetFree.of_bodySF (plainFor_of_name pn_com_example_kwota_kwota_server_ErrorReasonOfStatusPinLaw) hisR ?_
  intro p e s m args below meth c s₁ Bd hml0 hP hK
  obtain ⟨rfl, hZ, hh⟩ := hP
  have hx := Bd.exec
  have hby := Bd.bytes
  have hml : c.maxLocals = 1 := hml0
  have hown : s.vm.findClass "com/example/kwota/kwota/server/ErrorReasonOfStatusPinLaw" = some m.cls := findClass_of_methodNamed Bd.named
  have hnm := (name_of_methodNamed Bd.named Bd.method).1
  have X0 : Stand p l e ({ frames := 0, cells := 0, slots := 0, locals := 0 } : Room) s m #[(.ref a_MALFORMED_REQUEST)] below meth c s₁ [] 0 0 := Stand.of_body Bd
  have e0 : s₁.heap = h0 := by rw [← hh, Bd.state]; rfl
  have N0 := Fr.nil n0
  refine Classical.byContradiction fun hNG => ?_
  have K0 := Keep.refl h0 []
  have k0 : ∀ t, own_At p e below m s₁ 0 #[.val (.ref a_MALFORMED_REQUEST)] [] t → own_En p e below m s₁ #[(.ref a_MALFORMED_REQUEST)] 1 t := fun t k => castTop (ef_f1 m a_MALFORMED_REQUEST ) k
  obtain ⟨S_PATH_NOT_FOUND, E_PATH_NOT_FOUND, S_METHOD_NOT_ALLOWED, E_METHOD_NOT_ALLOWED, S_UNSUPPORTED_MEDIA_TYPE, E_UNSUPPORTED_MEDIA_TYPE, S_EXPECTATION_FAILED, E_EXPECTATION_FAILED, S_NOT_IMPLEMENTED, E_NOT_IMPLEMENTED, S_HTTP_VERSION_NOT_SUPPORTED, E_HTTP_VERSION_NOT_SUPPORTED, S_MALFORMED_REQUEST, E_MALFORMED_REQUEST, S_INTERNAL_ERROR, E_INTERNAL_ERROR, F_EXPECTATION_FAILED_ordinal, F_PATH_NOT_FOUND_ordinal, F_METHOD_NOT_ALLOWED_ordinal, F_UNSUPPORTED_MEDIA_TYPE_ordinal, F_MALFORMED_REQUEST_ordinal, F_NOT_IMPLEMENTED_ordinal, F_HTTP_VERSION_NOT_SUPPORTED_ordinal, F_INTERNAL_ERROR_ordinal⟩ := (id hE : EV Z a_PATH_NOT_FOUND a_METHOD_NOT_ALLOWED a_UNSUPPORTED_MEDIA_TYPE a_EXPECTATION_FAILED a_NOT_IMPLEMENTED a_HTTP_VERSION_NOT_SUPPORTED a_MALFORMED_REQUEST a_INTERNAL_ERROR)
  obtain ⟨T1, X1, e1, st1⟩ := getS2 X0 hx hZ hown (host := "") (Or.inl (own_w hw 2 rfl)) Via.refl e0 (S_PATH_NOT_FOUND.ext O0.2) (g := (mkF m 1 #[.val (.ref a_MALFORMED_REQUEST)] [(.ref a_MALFORMED_REQUEST)])) rfl (hb hby d_method_2_code_1)
  obtain ⟨T2, X2, e2, st2⟩ := getS2 X1 hx hZ hown (host := "") (Or.inl (own_w hw 6 rfl)) Via.refl e1 (S_METHOD_NOT_ALLOWED.ext O0.2) (g := (mkF m 12 #[.val (.ref a_MALFORMED_REQUEST)] [(.ref a_MALFORMED_REQUEST)])) rfl (hb hby d_method_2_code_12)
  obtain ⟨T3, X3, e3, st3⟩ := getS2 X2 hx hZ hown (host := "") (Or.inl (own_w hw 8 rfl)) Via.refl e2 (S_UNSUPPORTED_MEDIA_TYPE.ext O0.2) (g := (mkF m 23 #[.val (.ref a_MALFORMED_REQUEST)] [(.ref a_MALFORMED_REQUEST)])) rfl (hb hby d_method_2_code_23)
  obtain ⟨T4, X4, e4, st4⟩ := getS2 X3 hx hZ hown (host := "") (Or.inl (own_w hw 10 rfl)) Via.refl e3 (S_EXPECTATION_FAILED.ext O0.2) (g := (mkF m 34 #[.val (.ref a_MALFORMED_REQUEST)] [(.ref a_MALFORMED_REQUEST)])) rfl (hb hby d_method_2_code_34)
  obtain ⟨T5, X5, e5, st5⟩ := getS2 X4 hx hZ hown (host := "") (Or.inl (own_w hw 12 rfl)) Via.refl e4 (S_NOT_IMPLEMENTED.ext O0.2) (g := (mkF m 45 #[.val (.ref a_MALFORMED_REQUEST)] [(.ref a_MALFORMED_REQUEST)])) rfl (hb hby d_method_2_code_45)
  obtain ⟨T6, X6, e6, st6⟩ := getS2 X5 hx hZ hown (host := "") (Or.inl (own_w hw 14 rfl)) Via.refl e5 (S_HTTP_VERSION_NOT_SUPPORTED.ext O0.2) (g := (mkF m 56 #[.val (.ref a_MALFORMED_REQUEST)] [(.ref a_MALFORMED_REQUEST)])) rfl (hb hby d_method_2_code_56)
  obtain ⟨T7, X7, e7, st7⟩ := getS2 X6 hx hZ hown (host := "") (Or.inl (own_w hw 16 rfl)) Via.refl e6 (S_MALFORMED_REQUEST.ext O0.2) (g := (mkF m 67 #[.val (.ref a_MALFORMED_REQUEST)] [(.ref a_MALFORMED_REQUEST)])) rfl (hb hby d_method_2_code_67)
  have k8 : ∀ t, own_At p e below m T7 76 #[.val (.ref a_MALFORMED_REQUEST)] [(.int (400 : Int32))] t → own_En p e below m s₁ #[(.ref a_MALFORMED_REQUEST)] 1 t := by
    intro t k
    refine k0 t ?_
    refine XS.aloadN X0.here hx rfl (hb hby d_method_2_code_0) rfl rfl ?_
    show own_At p e below m s₁ 1 #[.val (.ref a_MALFORMED_REQUEST)] [(.ref a_MALFORMED_REQUEST)] t
    refine st1 _ ?_
    show own_At p e below m T1 4 #[.val (.ref a_MALFORMED_REQUEST)] [(.ref a_PATH_NOT_FOUND), (.ref a_MALFORMED_REQUEST)] t
    refine Jvm.RoadKit.acmp (g := (mkF m 4 #[.val (.ref a_MALFORMED_REQUEST)] [(.ref a_PATH_NOT_FOUND), (.ref a_MALFORMED_REQUEST)])) X1 hx rfl rfl rfl (pc0 := 4) (pc' := 11) (same := false) rfl (hb hby d_method_2_code_4) rfl (decide_eq_false fun q => (F_MALFORMED_REQUEST_ordinal.ne F_PATH_NOT_FOUND_ordinal (fun q => absurd (Value.int.inj q) (by decide))) (Value.ref.inj q)) (by decide) (by decide) ?_
    show own_At p e below m T1 11 #[.val (.ref a_MALFORMED_REQUEST)] [] t
    refine XS.aloadN X1.here hx rfl (hb hby d_method_2_code_11) rfl rfl ?_
    show own_At p e below m T1 12 #[.val (.ref a_MALFORMED_REQUEST)] [(.ref a_MALFORMED_REQUEST)] t
    refine st2 _ ?_
    show own_At p e below m T2 15 #[.val (.ref a_MALFORMED_REQUEST)] [(.ref a_METHOD_NOT_ALLOWED), (.ref a_MALFORMED_REQUEST)] t
    refine Jvm.RoadKit.acmp (g := (mkF m 15 #[.val (.ref a_MALFORMED_REQUEST)] [(.ref a_METHOD_NOT_ALLOWED), (.ref a_MALFORMED_REQUEST)])) X2 hx rfl rfl rfl (pc0 := 15) (pc' := 22) (same := false) rfl (hb hby d_method_2_code_15) rfl (decide_eq_false fun q => (F_MALFORMED_REQUEST_ordinal.ne F_METHOD_NOT_ALLOWED_ordinal (fun q => absurd (Value.int.inj q) (by decide))) (Value.ref.inj q)) (by decide) (by decide) ?_
    show own_At p e below m T2 22 #[.val (.ref a_MALFORMED_REQUEST)] [] t
    refine XS.aloadN X2.here hx rfl (hb hby d_method_2_code_22) rfl rfl ?_
    show own_At p e below m T2 23 #[.val (.ref a_MALFORMED_REQUEST)] [(.ref a_MALFORMED_REQUEST)] t
    refine st3 _ ?_
    show own_At p e below m T3 26 #[.val (.ref a_MALFORMED_REQUEST)] [(.ref a_UNSUPPORTED_MEDIA_TYPE), (.ref a_MALFORMED_REQUEST)] t
    refine Jvm.RoadKit.acmp (g := (mkF m 26 #[.val (.ref a_MALFORMED_REQUEST)] [(.ref a_UNSUPPORTED_MEDIA_TYPE), (.ref a_MALFORMED_REQUEST)])) X3 hx rfl rfl rfl (pc0 := 26) (pc' := 33) (same := false) rfl (hb hby d_method_2_code_26) rfl (decide_eq_false fun q => (F_MALFORMED_REQUEST_ordinal.ne F_UNSUPPORTED_MEDIA_TYPE_ordinal (fun q => absurd (Value.int.inj q) (by decide))) (Value.ref.inj q)) (by decide) (by decide) ?_
    show own_At p e below m T3 33 #[.val (.ref a_MALFORMED_REQUEST)] [] t
    refine XS.aloadN X3.here hx rfl (hb hby d_method_2_code_33) rfl rfl ?_
    show own_At p e below m T3 34 #[.val (.ref a_MALFORMED_REQUEST)] [(.ref a_MALFORMED_REQUEST)] t
    refine st4 _ ?_
    show own_At p e below m T4 37 #[.val (.ref a_MALFORMED_REQUEST)] [(.ref a_EXPECTATION_FAILED), (.ref a_MALFORMED_REQUEST)] t
    refine Jvm.RoadKit.acmp (g := (mkF m 37 #[.val (.ref a_MALFORMED_REQUEST)] [(.ref a_EXPECTATION_FAILED), (.ref a_MALFORMED_REQUEST)])) X4 hx rfl rfl rfl (pc0 := 37) (pc' := 44) (same := false) rfl (hb hby d_method_2_code_37) rfl (decide_eq_false fun q => (F_MALFORMED_REQUEST_ordinal.ne F_EXPECTATION_FAILED_ordinal (fun q => absurd (Value.int.inj q) (by decide))) (Value.ref.inj q)) (by decide) (by decide) ?_
    show own_At p e below m T4 44 #[.val (.ref a_MALFORMED_REQUEST)] [] t
    refine XS.aloadN X4.here hx rfl (hb hby d_method_2_code_44) rfl rfl ?_
    show own_At p e below m T4 45 #[.val (.ref a_MALFORMED_REQUEST)] [(.ref a_MALFORMED_REQUEST)] t
    refine st5 _ ?_
    show own_At p e below m T5 48 #[.val (.ref a_MALFORMED_REQUEST)] [(.ref a_NOT_IMPLEMENTED), (.ref a_MALFORMED_REQUEST)] t
    refine Jvm.RoadKit.acmp (g := (mkF m 48 #[.val (.ref a_MALFORMED_REQUEST)] [(.ref a_NOT_IMPLEMENTED), (.ref a_MALFORMED_REQUEST)])) X5 hx rfl rfl rfl (pc0 := 48) (pc' := 55) (same := false) rfl (hb hby d_method_2_code_48) rfl (decide_eq_false fun q => (F_MALFORMED_REQUEST_ordinal.ne F_NOT_IMPLEMENTED_ordinal (fun q => absurd (Value.int.inj q) (by decide))) (Value.ref.inj q)) (by decide) (by decide) ?_
    show own_At p e below m T5 55 #[.val (.ref a_MALFORMED_REQUEST)] [] t
    refine XS.aloadN X5.here hx rfl (hb hby d_method_2_code_55) rfl rfl ?_
    show own_At p e below m T5 56 #[.val (.ref a_MALFORMED_REQUEST)] [(.ref a_MALFORMED_REQUEST)] t
    refine st6 _ ?_
    show own_At p e below m T6 59 #[.val (.ref a_MALFORMED_REQUEST)] [(.ref a_HTTP_VERSION_NOT_SUPPORTED), (.ref a_MALFORMED_REQUEST)] t
    refine Jvm.RoadKit.acmp (g := (mkF m 59 #[.val (.ref a_MALFORMED_REQUEST)] [(.ref a_HTTP_VERSION_NOT_SUPPORTED), (.ref a_MALFORMED_REQUEST)])) X6 hx rfl rfl rfl (pc0 := 59) (pc' := 66) (same := false) rfl (hb hby d_method_2_code_59) rfl (decide_eq_false fun q => (F_MALFORMED_REQUEST_ordinal.ne F_HTTP_VERSION_NOT_SUPPORTED_ordinal (fun q => absurd (Value.int.inj q) (by decide))) (Value.ref.inj q)) (by decide) (by decide) ?_
    show own_At p e below m T6 66 #[.val (.ref a_MALFORMED_REQUEST)] [] t
    refine XS.aloadN X6.here hx rfl (hb hby d_method_2_code_66) rfl rfl ?_
    show own_At p e below m T6 67 #[.val (.ref a_MALFORMED_REQUEST)] [(.ref a_MALFORMED_REQUEST)] t
    refine st7 _ ?_
    show own_At p e below m T7 70 #[.val (.ref a_MALFORMED_REQUEST)] [(.ref a_MALFORMED_REQUEST), (.ref a_MALFORMED_REQUEST)] t
    refine Jvm.RoadKit.acmp (g := (mkF m 70 #[.val (.ref a_MALFORMED_REQUEST)] [(.ref a_MALFORMED_REQUEST), (.ref a_MALFORMED_REQUEST)])) X7 hx rfl rfl rfl (pc0 := 70) (pc' := 73) (same := true) rfl (hb hby d_method_2_code_70) rfl (decide_eq_true rfl) (by decide) (by decide) ?_
    show own_At p e below m T7 73 #[.val (.ref a_MALFORMED_REQUEST)] [] t
    refine XS.sipush X7.here hx rfl (hb hby d_method_2_code_73) ?_
    show own_At p e below m T7 76 #[.val (.ref a_MALFORMED_REQUEST)] [(.int (400 : Int32))] t
    exact k
  obtain ⟨fs, hr, hrun, hended, hW, hsame⟩ := X7.leave (v := some (.int (400 : Int32))) (fun h => by rw [Bd.returns] at h; cases h)
  refine hNG ⟨_, _, k8 _ ?_, hrun, hended, _, _, rfl, ?_, ⟨_, rfl⟩, hW, hsame.mono (by decide) (by decide)⟩
  · exact retOut X7 hx (t := .int) Bd.returns rfl (Or.inl ⟨rfl, Or.inl rfl, _, rfl⟩) (hb hby d_method_2_code_76) hr
  · show Q_f1 Z a_PATH_NOT_FOUND a_METHOD_NOT_ALLOWED a_UNSUPPORTED_MEDIA_TYPE a_EXPECTATION_FAILED a_NOT_IMPLEMENTED a_HTTP_VERSION_NOT_SUPPORTED a_MALFORMED_REQUEST a_INTERNAL_ERROR h0 n0 _ T7.heap _
    rw [e7]
    exact ⟨rfl, N0, rfl⟩
theorem pd__Lcom_example_kwota_kwota_server_ErrorReason__I : parseMethodDescriptor "(Lcom/example/kwota/kwota/server/ErrorReason;)I" = some ⟨[(.object "com/example/kwota/kwota/server/ErrorReason")], some .int⟩ := by decide +kernel
theorem d_method_3_code_9 : decode method_3_code 9 = .ok (.istore_n 2, 1) := by decide +kernel
theorem d_method_3_code_10 : decode method_3_code 10 = .ok (.iload_n 2, 1) := by decide +kernel
theorem d_method_3_code_11 : decode method_3_code 11 = .ok (.ifCond .gt 5, 3) := by decide +kernel
theorem d_method_3_code_16 : decode method_3_code 16 = .ok (.iload_n 2, 1) := by decide +kernel
theorem d_method_3_code_17 : decode method_3_code 17 = .ok (.iload_n 0, 1) := by decide +kernel
theorem d_method_3_code_18 : decode method_3_code 18 = .ok (.if_icmp .ne 5, 3) := by decide +kernel
theorem d_method_3_code_21 : decode method_3_code 21 = .ok (.iconst 1, 1) := by decide +kernel
theorem d_method_3_code_22 : decode method_3_code 22 = .ok (.ireturn, 1) := by decide +kernel
theorem d_method_3_code_23 : decode method_3_code 23 = .ok (.aload_n 1, 1) := by decide +kernel
theorem d_method_3_code_24 : decode method_3_code 24 = .ok (.getstatic 31, 3) := by decide +kernel
theorem d_method_3_code_27 : decode method_3_code 27 = .ok (.if_acmp .ne 16, 3) := by decide +kernel
theorem d_method_3_code_43 : decode method_3_code 43 = .ok (.aload_n 1, 1) := by decide +kernel
theorem d_method_3_code_44 : decode method_3_code 44 = .ok (.getstatic 28, 3) := by decide +kernel
theorem d_method_3_code_47 : decode method_3_code 47 = .ok (.if_acmp .ne 16, 3) := by decide +kernel
theorem d_method_3_code_50 : decode method_3_code 50 = .ok (.iload_n 0, 1) := by decide +kernel
theorem d_method_3_code_51 : decode method_3_code 51 = .ok (.sipush 500, 3) := by decide +kernel
theorem d_method_3_code_54 : decode method_3_code 54 = .ok (.if_icmp .ge 7, 3) := by decide +kernel
theorem d_method_3_code_57 : decode method_3_code 57 = .ok (.iconst 1, 1) := by decide +kernel
theorem d_method_3_code_58 : decode method_3_code 58 = .ok (.goto 4, 3) := by decide +kernel
theorem d_method_3_code_62 : decode method_3_code 62 = .ok (.ireturn, 1) := by decide +kernel
abbrev own_m2 : MethodName := ⟨"com/example/kwota/kwota/server/ErrorReasonOfStatusPinLaw", "fits", "(I)Z"⟩
def Q_fits_lo (Z : State) (p0 : Int32) (a_PATH_NOT_FOUND : Addr) (a_METHOD_NOT_ALLOWED : Addr) (a_UNSUPPORTED_MEDIA_TYPE : Addr) (a_EXPECTATION_FAILED : Addr) (a_NOT_IMPLEMENTED : Addr) (a_HTTP_VERSION_NOT_SUPPORTED : Addr) (a_MALFORMED_REQUEST : Addr) (a_INTERNAL_ERROR : Addr) (h0 : Heap) (n0 : Nat) (v : Option Value) (h : Heap) (L : List Loc) : Prop := v = some (.int (1 : Int32)) ∧ Fr n0 L ∧ h = h0
set_option maxRecDepth 65536 in
set_option maxHeartbeats 40000000 in
theorem rm_fits_lo (l : Launch) (Z : State) (a0 : Array Value) (hw : ∀ d ∈ tables_1, d.before a0 Z = true) (ws : List Jvm.Cond) (p0 : Int32) (a_PATH_NOT_FOUND : Addr) (a_METHOD_NOT_ALLOWED : Addr) (a_UNSUPPORTED_MEDIA_TYPE : Addr) (a_EXPECTATION_FAILED : Addr) (a_NOT_IMPLEMENTED : Addr) (a_HTTP_VERSION_NOT_SUPPORTED : Addr) (a_MALFORMED_REQUEST : Addr) (a_INTERNAL_ERROR : Addr) (h0 : Heap) (n0 : Nat) (O0 : Old Z n0 h0) (hE : EV Z a_PATH_NOT_FOUND a_METHOD_NOT_ALLOWED a_UNSUPPORTED_MEDIA_TYPE a_EXPECTATION_FAILED a_NOT_IMPLEMENTED a_HTTP_VERSION_NOT_SUPPORTED a_MALFORMED_REQUEST a_INTERNAL_ERROR) (n404 : ¬ (p0 = (404 : Int32))) (n405 : ¬ (p0 = (405 : Int32))) (n415 : ¬ (p0 = (415 : Int32))) (n417 : ¬ (p0 = (417 : Int32))) (n501 : ¬ (p0 = (501 : Int32))) (n505 : ¬ (p0 = (505 : Int32))) (hlt : (p0 < (500 : Int32))) :
    MetFree l own_m2 (head1 (Jvm.Cond.code own_m2 method_3_code 3 (some .boolean) :: ws) ({ frames := 1, cells := 0, slots := 0, locals := 16 } : Room)) (fun a U => a = #[(.int p0)] ∧ Z.Warmed39 U.vm ∧ U.heap = h0) (fun _ _ _ _ _ => True) (fun _ U o U' => ∃ v L, o = .returned v ∧ Q_fits_lo Z p0 a_PATH_NOT_FOUND a_METHOD_NOT_ALLOWED a_UNSUPPORTED_MEDIA_TYPE a_EXPECTATION_FAILED a_NOT_IMPLEMENTED a_HTTP_VERSION_NOT_SUPPORTED a_MALFORMED_REQUEST a_INTERNAL_ERROR h0 n0 v U'.heap L ∧ FrameEnd U o U' L ({ frames := 1, cells := 0, slots := 0, locals := 16 } : Room).cells ({ frames := 1, cells := 0, slots := 0, locals := 16 } : Room).slots) := by
  refine MetFree.of_bodySF (plainFor_of_name pn_com_example_kwota_kwota_server_ErrorReasonOfStatusPinLaw) hisR ?_
  intro p e s m args below meth c s₁ Bd hml0 hP hK
  obtain ⟨rfl, hZ, hh⟩ := hP
  have hx := Bd.exec
  have hby := Bd.bytes
  have hml : c.maxLocals = 3 := hml0
  have hown : s.vm.findClass "com/example/kwota/kwota/server/ErrorReasonOfStatusPinLaw" = some m.cls := findClass_of_methodNamed Bd.named
  have hnm := (name_of_methodNamed Bd.named Bd.method).1
  have X0 : Stand p l e ({ frames := 1, cells := 0, slots := 0, locals := 16 } : Room) s m #[(.int p0)] below meth c s₁ [] 0 0 := Stand.of_body Bd
  have e0 : s₁.heap = h0 := by rw [← hh, Bd.state]; rfl
  have N0 := Fr.nil n0
  refine Classical.byContradiction fun hNG => ?_
  have K0 := Keep.refl h0 []
  have k0 : ∀ t, own_At p e below m s₁ 0 #[.val (.int p0), .unset, .unset] [] t → own_En p e below m s₁ #[(.int p0)] 3 t := fun t k => castTop (ef_fits_lo m p0 ) k
  obtain ⟨S_PATH_NOT_FOUND, E_PATH_NOT_FOUND, S_METHOD_NOT_ALLOWED, E_METHOD_NOT_ALLOWED, S_UNSUPPORTED_MEDIA_TYPE, E_UNSUPPORTED_MEDIA_TYPE, S_EXPECTATION_FAILED, E_EXPECTATION_FAILED, S_NOT_IMPLEMENTED, E_NOT_IMPLEMENTED, S_HTTP_VERSION_NOT_SUPPORTED, E_HTTP_VERSION_NOT_SUPPORTED, S_MALFORMED_REQUEST, E_MALFORMED_REQUEST, S_INTERNAL_ERROR, E_INTERNAL_ERROR, F_EXPECTATION_FAILED_ordinal, F_PATH_NOT_FOUND_ordinal, F_METHOD_NOT_ALLOWED_ordinal, F_UNSUPPORTED_MEDIA_TYPE_ordinal, F_MALFORMED_REQUEST_ordinal, F_NOT_IMPLEMENTED_ordinal, F_HTTP_VERSION_NOT_SUPPORTED_ordinal, F_INTERNAL_ERROR_ordinal⟩ := (id hE : EV Z a_PATH_NOT_FOUND a_METHOD_NOT_ALLOWED a_UNSUPPORTED_MEDIA_TYPE a_EXPECTATION_FAILED a_NOT_IMPLEMENTED a_HTTP_VERSION_NOT_SUPPORTED a_MALFORMED_REQUEST a_INTERNAL_ERROR)
  obtain ⟨_, _, ⟨T1, L1, k1, n1⟩, -, X1, ⟨Lc1, hQ1, l1, y1, z1⟩, st1⟩ := Jvm.LawKit.callS X0 hx (y := own_m0) hown (mvT hZ (own_w hw 27 rfl)) (mvT hZ (own_w hw 28 rfl)) (mvT hZ (own_w hw 3 rfl)) (mvT hZ (own_w hw 29 rfl)) (by decide) (backOf (W := 0) (rm_ofs_lo l Z a0 hw [] p0 _ _ _ _ _ _ _ _ h0 n0 O0 hE n404 n405 n415 n417 n501 n505 hlt) hZ (own_w hw 29 rfl) (own_w hw 3 rfl) (by decide) (by decide)) (g := (mkF m 1 #[.val (.int p0), .unset, .unset] [(.int p0)])) rfl (by rw [hml]; rfl) (argsL := [(.int p0)]) (rest := []) (lenOf pd__I_Lcom_example_kwota_kwota_server_ErrorReason_ rfl) rfl (by show 2 * 0 + _ ≤ _; exact Nat.le_of_eq rfl) (hb hby d_method_3_code_1) (fun _ _ => ⟨rfl, e0, (by decide : 0 + 0 ≤ _), (by decide : 0 + 0 ≤ _)⟩)
  dsimp only [Pt.U, Pt.locs, Pt.cells, Pt.slots] at X1 l1 y1 z1 st1 hQ1
  subst l1 y1 z1
  obtain ⟨rfl, N1q, hp1⟩ := hQ1
  have N1 := Fr.app N0 N1q
  obtain ⟨_, _, ⟨T2, L2, k2, n2⟩, -, X2, ⟨Lc2, hQ2, l2, y2, z2⟩, st2⟩ := Jvm.LawKit.callS X1 hx (y := own_m1) hown (mvT hZ (own_w hw 20 rfl)) (mvT hZ (own_w hw 21 rfl)) (mvT hZ (own_w hw 22 rfl)) (mvT hZ (own_w hw 23 rfl)) (by decide) (backOf (W := 0) (rm_f1 l Z a0 hw []  _ _ _ _ _ _ _ _ h0 n0 O0 hE) hZ (own_w hw 23 rfl) (own_w hw 22 rfl) (by decide) (by decide)) (g := (mkF m 6 #[.val (.int p0), .val (.ref a_MALFORMED_REQUEST), .unset] [(.ref a_MALFORMED_REQUEST)])) rfl (by rw [hml]; rfl) (argsL := [(.ref a_MALFORMED_REQUEST)]) (rest := []) (lenOf pd__Lcom_example_kwota_kwota_server_ErrorReason__I rfl) rfl (by show 2 * 0 + _ ≤ _; exact Nat.le_of_eq rfl) (hb hby d_method_3_code_6) (fun _ _ => ⟨rfl, hp1, (by decide : 0 + 0 ≤ _), (by decide : 0 + 0 ≤ _)⟩)
  dsimp only [Pt.U, Pt.locs, Pt.cells, Pt.slots] at X2 l2 y2 z2 st2 hQ2
  subst l2 y2 z2
  obtain ⟨rfl, N2q, hp2⟩ := hQ2
  have N2 := Fr.app N1 N2q
  have k3 : ∀ t, own_At p e below m T2 18 #[.val (.int p0), .val (.ref a_MALFORMED_REQUEST), .val (.int (400 : Int32))] [(.int p0), (.int (400 : Int32))] t → own_En p e below m s₁ #[(.int p0)] 3 t := by
    intro t k
    refine k0 t ?_
    refine XS.iloadN X0.here hx rfl (hb hby d_method_3_code_0) rfl ?_
    show own_At p e below m s₁ 1 #[.val (.int p0), .unset, .unset] [(.int p0)] t
    refine st1 _ ?_
    show own_At p e below m T1 4 #[.val (.int p0), .unset, .unset] [(.ref a_MALFORMED_REQUEST)] t
    refine XS.astoreN X1.here hx rfl (hb hby d_method_3_code_4) rfl rfl (l' := #[.val (.int p0), .val (.ref a_MALFORMED_REQUEST), .unset]) rfl ?_
    show own_At p e below m T1 5 #[.val (.int p0), .val (.ref a_MALFORMED_REQUEST), .unset] [] t
    refine XS.aloadN X1.here hx rfl (hb hby d_method_3_code_5) rfl rfl ?_
    show own_At p e below m T1 6 #[.val (.int p0), .val (.ref a_MALFORMED_REQUEST), .unset] [(.ref a_MALFORMED_REQUEST)] t
    refine st2 _ ?_
    show own_At p e below m T2 9 #[.val (.int p0), .val (.ref a_MALFORMED_REQUEST), .unset] [(.int (400 : Int32))] t
    refine XS.istoreN X2.here hx rfl (hb hby d_method_3_code_9) rfl (l' := #[.val (.int p0), .val (.ref a_MALFORMED_REQUEST), .val (.int (400 : Int32))]) rfl ?_
    show own_At p e below m T2 10 #[.val (.int p0), .val (.ref a_MALFORMED_REQUEST), .val (.int (400 : Int32))] [] t
    refine XS.iloadN X2.here hx rfl (hb hby d_method_3_code_10) rfl ?_
    show own_At p e below m T2 11 #[.val (.int p0), .val (.ref a_MALFORMED_REQUEST), .val (.int (400 : Int32))] [(.int (400 : Int32))] t
    refine XS.ifYes X2.here hx rfl (pc0 := 11) (pc' := 16) rfl (hb hby d_method_3_code_11) rfl ((if0 _ _).trans (tlt (by decide : (0 : Int32) < (400 : Int32))).2.2.1) (by decide) (by decide) ?_
    show own_At p e below m T2 16 #[.val (.int p0), .val (.ref a_MALFORMED_REQUEST), .val (.int (400 : Int32))] [] t
    refine XS.iloadN X2.here hx rfl (hb hby d_method_3_code_16) rfl ?_
    show own_At p e below m T2 17 #[.val (.int p0), .val (.ref a_MALFORMED_REQUEST), .val (.int (400 : Int32))] [(.int (400 : Int32))] t
    refine XS.iloadN X2.here hx rfl (hb hby d_method_3_code_17) rfl ?_
    show own_At p e below m T2 18 #[.val (.int p0), .val (.ref a_MALFORMED_REQUEST), .val (.int (400 : Int32))] [(.int p0), (.int (400 : Int32))] t
    exact k
  by_cases hc4 : p0 = (400 : Int32)
  · have k5 : ∀ t, own_At p e below m T2 22 #[.val (.int p0), .val (.ref a_MALFORMED_REQUEST), .val (.int (400 : Int32))] [(.int (1 : Int32))] t → own_En p e below m s₁ #[(.int p0)] 3 t := by
      intro t k
      refine k3 t ?_
      refine XS.icmpNo X2.here hx rfl (hb hby d_method_3_code_18) rfl (teq (hc4).symm).2 ?_
      show own_At p e below m T2 21 #[.val (.int p0), .val (.ref a_MALFORMED_REQUEST), .val (.int (400 : Int32))] [] t
      refine XS.iconst X2.here hx rfl (hb hby d_method_3_code_21) ?_
      show own_At p e below m T2 22 #[.val (.int p0), .val (.ref a_MALFORMED_REQUEST), .val (.int (400 : Int32))] [(.int (1 : Int32))] t
      exact k
    obtain ⟨fs, hr, hrun, hended, hW, hsame⟩ := X2.leave (v := some (.int (1 : Int32))) (fun h => by rw [Bd.returns] at h; cases h)
    refine hNG ⟨_, _, k5 _ ?_, hrun, hended, _, _, rfl, ?_, ⟨_, rfl⟩, hW, hsame.mono (by decide) (by decide)⟩
    · exact retN X2 hx (t := .boolean) Bd.returns (by simp) (hb hby d_method_3_code_22) hr
    · show Q_fits_lo Z p0 a_PATH_NOT_FOUND a_METHOD_NOT_ALLOWED a_UNSUPPORTED_MEDIA_TYPE a_EXPECTATION_FAILED a_NOT_IMPLEMENTED a_HTTP_VERSION_NOT_SUPPORTED a_MALFORMED_REQUEST a_INTERNAL_ERROR h0 n0 _ T2.heap _
      rw [hp2]
      exact ⟨rfl, N2, rfl⟩
  · obtain ⟨T6, X6, e6, st6⟩ := getS2 X2 hx hZ hown (host := "") (Or.inl (own_w hw 18 rfl)) Via.refl hp2 (S_INTERNAL_ERROR.ext O0.2) (g := (mkF m 24 #[.val (.int p0), .val (.ref a_MALFORMED_REQUEST), .val (.int (400 : Int32))] [(.ref a_MALFORMED_REQUEST)])) rfl (hb hby d_method_3_code_24)
    obtain ⟨T7, X7, e7, st7⟩ := getS2 X6 hx hZ hown (host := "") (Or.inl (own_w hw 16 rfl)) Via.refl e6 (S_MALFORMED_REQUEST.ext O0.2) (g := (mkF m 44 #[.val (.int p0), .val (.ref a_MALFORMED_REQUEST), .val (.int (400 : Int32))] [(.ref a_MALFORMED_REQUEST)])) rfl (hb hby d_method_3_code_44)
    have k8 : ∀ t, own_At p e below m T7 62 #[.val (.int p0), .val (.ref a_MALFORMED_REQUEST), .val (.int (400 : Int32))] [(.int (1 : Int32))] t → own_En p e below m s₁ #[(.int p0)] 3 t := by
      intro t k
      refine k3 t ?_
      refine XS.icmpYes X2.here hx rfl (pc0 := 18) (pc' := 23) rfl (hb hby d_method_3_code_18) rfl (feq (fun q => hc4 q.symm)).2 (by decide) (by decide) ?_
      show own_At p e below m T2 23 #[.val (.int p0), .val (.ref a_MALFORMED_REQUEST), .val (.int (400 : Int32))] [] t
      refine XS.aloadN X2.here hx rfl (hb hby d_method_3_code_23) rfl rfl ?_
      show own_At p e below m T2 24 #[.val (.int p0), .val (.ref a_MALFORMED_REQUEST), .val (.int (400 : Int32))] [(.ref a_MALFORMED_REQUEST)] t
      refine st6 _ ?_
      show own_At p e below m T6 27 #[.val (.int p0), .val (.ref a_MALFORMED_REQUEST), .val (.int (400 : Int32))] [(.ref a_INTERNAL_ERROR), (.ref a_MALFORMED_REQUEST)] t
      refine Jvm.RoadKit.acmp (g := (mkF m 27 #[.val (.int p0), .val (.ref a_MALFORMED_REQUEST), .val (.int (400 : Int32))] [(.ref a_INTERNAL_ERROR), (.ref a_MALFORMED_REQUEST)])) X6 hx rfl rfl rfl (pc0 := 27) (pc' := 43) (same := false) rfl (hb hby d_method_3_code_27) rfl (decide_eq_false fun q => (F_MALFORMED_REQUEST_ordinal.ne F_INTERNAL_ERROR_ordinal (fun q => absurd (Value.int.inj q) (by decide))) (Value.ref.inj q)) (by decide) (by decide) ?_
      show own_At p e below m T6 43 #[.val (.int p0), .val (.ref a_MALFORMED_REQUEST), .val (.int (400 : Int32))] [] t
      refine XS.aloadN X6.here hx rfl (hb hby d_method_3_code_43) rfl rfl ?_
      show own_At p e below m T6 44 #[.val (.int p0), .val (.ref a_MALFORMED_REQUEST), .val (.int (400 : Int32))] [(.ref a_MALFORMED_REQUEST)] t
      refine st7 _ ?_
      show own_At p e below m T7 47 #[.val (.int p0), .val (.ref a_MALFORMED_REQUEST), .val (.int (400 : Int32))] [(.ref a_MALFORMED_REQUEST), (.ref a_MALFORMED_REQUEST)] t
      refine Jvm.RoadKit.acmp (g := (mkF m 47 #[.val (.int p0), .val (.ref a_MALFORMED_REQUEST), .val (.int (400 : Int32))] [(.ref a_MALFORMED_REQUEST), (.ref a_MALFORMED_REQUEST)])) X7 hx rfl rfl rfl (pc0 := 47) (pc' := 50) (same := true) rfl (hb hby d_method_3_code_47) rfl (decide_eq_true rfl) (by decide) (by decide) ?_
      show own_At p e below m T7 50 #[.val (.int p0), .val (.ref a_MALFORMED_REQUEST), .val (.int (400 : Int32))] [] t
      refine XS.iloadN X7.here hx rfl (hb hby d_method_3_code_50) rfl ?_
      show own_At p e below m T7 51 #[.val (.int p0), .val (.ref a_MALFORMED_REQUEST), .val (.int (400 : Int32))] [(.int p0)] t
      refine XS.sipush X7.here hx rfl (hb hby d_method_3_code_51) ?_
      show own_At p e below m T7 54 #[.val (.int p0), .val (.ref a_MALFORMED_REQUEST), .val (.int (400 : Int32))] [(.int (500 : Int32)), (.int p0)] t
      refine XS.icmpNo X7.here hx rfl (hb hby d_method_3_code_54) rfl (tlt hlt).2.1 ?_
      show own_At p e below m T7 57 #[.val (.int p0), .val (.ref a_MALFORMED_REQUEST), .val (.int (400 : Int32))] [] t
      refine XS.iconst X7.here hx rfl (hb hby d_method_3_code_57) ?_
      show own_At p e below m T7 58 #[.val (.int p0), .val (.ref a_MALFORMED_REQUEST), .val (.int (400 : Int32))] [(.int (1 : Int32))] t
      refine XS.goto X7.here hx rfl (pc0 := 58) (pc' := 62) rfl (hb hby d_method_3_code_58) (by decide) (by decide) ?_
      show own_At p e below m T7 62 #[.val (.int p0), .val (.ref a_MALFORMED_REQUEST), .val (.int (400 : Int32))] [(.int (1 : Int32))] t
      exact k
    obtain ⟨fs, hr, hrun, hended, hW, hsame⟩ := X7.leave (v := some (.int (1 : Int32))) (fun h => by rw [Bd.returns] at h; cases h)
    refine hNG ⟨_, _, k8 _ ?_, hrun, hended, _, _, rfl, ?_, ⟨_, rfl⟩, hW, hsame.mono (by decide) (by decide)⟩
    · exact retN X7 hx (t := .boolean) Bd.returns (by simp) (hb hby d_method_3_code_62) hr
    · show Q_fits_lo Z p0 a_PATH_NOT_FOUND a_METHOD_NOT_ALLOWED a_UNSUPPORTED_MEDIA_TYPE a_EXPECTATION_FAILED a_NOT_IMPLEMENTED a_HTTP_VERSION_NOT_SUPPORTED a_MALFORMED_REQUEST a_INTERNAL_ERROR h0 n0 _ T7.heap _
      rw [e7]
      exact ⟨rfl, N2, rfl⟩
theorem ef_ofs_hi (m : MethodId) (x0 : Int32)  : entryFrame m #[(.int x0)] 1 = mkF m 0 #[.val (.int x0)] [] := by first | (simp [entryFrame, mkF, argsToLocals, Value.category]; done) | rfl
theorem d_prog_59_method_4_code_91 : decode prog_59_method_4_code 91 = .ok (.getstatic 73, 3) := by decide +kernel
theorem d_prog_59_method_4_code_94 : decode prog_59_method_4_code 94 = .ok (.goto 6, 3) := by decide +kernel
def Q_ofs_hi (Z : State) (p0 : Int32) (a_PATH_NOT_FOUND : Addr) (a_METHOD_NOT_ALLOWED : Addr) (a_UNSUPPORTED_MEDIA_TYPE : Addr) (a_EXPECTATION_FAILED : Addr) (a_NOT_IMPLEMENTED : Addr) (a_HTTP_VERSION_NOT_SUPPORTED : Addr) (a_MALFORMED_REQUEST : Addr) (a_INTERNAL_ERROR : Addr) (h0 : Heap) (n0 : Nat) (v : Option Value) (h : Heap) (L : List Loc) : Prop := v = some (.ref a_INTERNAL_ERROR) ∧ Fr n0 L ∧ h = h0
set_option maxRecDepth 65536 in
set_option maxHeartbeats 40000000 in
theorem rm_ofs_hi (l : Launch) (Z : State) (a0 : Array Value) (hw : ∀ d ∈ tables_1, d.before a0 Z = true) (ws : List Jvm.Cond) (p0 : Int32) (a_PATH_NOT_FOUND : Addr) (a_METHOD_NOT_ALLOWED : Addr) (a_UNSUPPORTED_MEDIA_TYPE : Addr) (a_EXPECTATION_FAILED : Addr) (a_NOT_IMPLEMENTED : Addr) (a_HTTP_VERSION_NOT_SUPPORTED : Addr) (a_MALFORMED_REQUEST : Addr) (a_INTERNAL_ERROR : Addr) (h0 : Heap) (n0 : Nat) (O0 : Old Z n0 h0) (hE : EV Z a_PATH_NOT_FOUND a_METHOD_NOT_ALLOWED a_UNSUPPORTED_MEDIA_TYPE a_EXPECTATION_FAILED a_NOT_IMPLEMENTED a_HTTP_VERSION_NOT_SUPPORTED a_MALFORMED_REQUEST a_INTERNAL_ERROR) (n404 : ¬ (p0 = (404 : Int32))) (n405 : ¬ (p0 = (405 : Int32))) (n415 : ¬ (p0 = (415 : Int32))) (n417 : ¬ (p0 = (417 : Int32))) (n501 : ¬ (p0 = (501 : Int32))) (n505 : ¬ (p0 = (505 : Int32))) (hlt : ¬ (p0 < (500 : Int32))) :
    MetFree l own_m0 (head1 (Jvm.Cond.code own_m0 prog_59_method_4_code 1 (some (.object "com/example/kwota/kwota/server/ErrorReason")) :: ws) ({ frames := 0, cells := 0, slots := 0, locals := 0 } : Room)) (fun a U => a = #[(.int p0)] ∧ Z.Warmed39 U.vm ∧ U.heap = h0) (fun _ _ _ _ _ => True) (fun _ U o U' => ∃ v L, o = .returned v ∧ Q_ofs_hi Z p0 a_PATH_NOT_FOUND a_METHOD_NOT_ALLOWED a_UNSUPPORTED_MEDIA_TYPE a_EXPECTATION_FAILED a_NOT_IMPLEMENTED a_HTTP_VERSION_NOT_SUPPORTED a_MALFORMED_REQUEST a_INTERNAL_ERROR h0 n0 v U'.heap L ∧ FrameEnd U o U' L ({ frames := 0, cells := 0, slots := 0, locals := 0 } : Room).cells ({ frames := 0, cells := 0, slots := 0, locals := 0 } : Room).slots) := by
  refine MetFree.of_bodySF (plainFor_of_name pn_com_example_kwota_kwota_server_ErrorReason) hisR ?_
  intro p e s m args below meth c s₁ Bd hml0 hP hK
  obtain ⟨rfl, hZ, hh⟩ := hP
  have hx := Bd.exec
  have hby := Bd.bytes
  have hml : c.maxLocals = 1 := hml0
  have hown : s.vm.findClass "com/example/kwota/kwota/server/ErrorReason" = some m.cls := findClass_of_methodNamed Bd.named
  have hnm := (name_of_methodNamed Bd.named Bd.method).1
  have X0 : Stand p l e ({ frames := 0, cells := 0, slots := 0, locals := 0 } : Room) s m #[(.int p0)] below meth c s₁ [] 0 0 := Stand.of_body Bd
  have e0 : s₁.heap = h0 := by rw [← hh, Bd.state]; rfl
  have N0 := Fr.nil n0
  refine Classical.byContradiction fun hNG => ?_
  have K0 := Keep.refl h0 []
  have k0 : ∀ t, own_At p e below m s₁ 0 #[.val (.int p0)] [] t → own_En p e below m s₁ #[(.int p0)] 1 t := fun t k => castTop (ef_ofs_hi m p0 ) k
  obtain ⟨S_PATH_NOT_FOUND, E_PATH_NOT_FOUND, S_METHOD_NOT_ALLOWED, E_METHOD_NOT_ALLOWED, S_UNSUPPORTED_MEDIA_TYPE, E_UNSUPPORTED_MEDIA_TYPE, S_EXPECTATION_FAILED, E_EXPECTATION_FAILED, S_NOT_IMPLEMENTED, E_NOT_IMPLEMENTED, S_HTTP_VERSION_NOT_SUPPORTED, E_HTTP_VERSION_NOT_SUPPORTED, S_MALFORMED_REQUEST, E_MALFORMED_REQUEST, S_INTERNAL_ERROR, E_INTERNAL_ERROR, F_EXPECTATION_FAILED_ordinal, F_PATH_NOT_FOUND_ordinal, F_METHOD_NOT_ALLOWED_ordinal, F_UNSUPPORTED_MEDIA_TYPE_ordinal, F_MALFORMED_REQUEST_ordinal, F_NOT_IMPLEMENTED_ordinal, F_HTTP_VERSION_NOT_SUPPORTED_ordinal, F_INTERNAL_ERROR_ordinal⟩ := (id hE : EV Z a_PATH_NOT_FOUND a_METHOD_NOT_ALLOWED a_UNSUPPORTED_MEDIA_TYPE a_EXPECTATION_FAILED a_NOT_IMPLEMENTED a_HTTP_VERSION_NOT_SUPPORTED a_MALFORMED_REQUEST a_INTERNAL_ERROR)
  have k1 : ∀ t, own_At p e below m s₁ 1 #[.val (.int p0)] [(.int p0)] t → own_En p e below m s₁ #[(.int p0)] 1 t := by
    intro t k
    refine k0 t ?_
    refine XS.iloadN X0.here hx rfl (hb hby d_prog_59_method_4_code_0) rfl ?_
    show own_At p e below m s₁ 1 #[.val (.int p0)] [(.int p0)] t
    exact k
  obtain ⟨T2, X2, e2, st2⟩ := getS2 X0 hx hZ hown (host := "") (Or.inl (own_w hw 36 rfl)) Via.refl e0 (S_INTERNAL_ERROR.ext O0.2) (g := (mkF m 91 #[.val (.int p0)] [])) rfl (hb hby d_prog_59_method_4_code_91)
  have k3 : ∀ t, own_At p e below m T2 100 #[.val (.int p0)] [(.ref a_INTERNAL_ERROR)] t → own_En p e below m s₁ #[(.int p0)] 1 t := by
    intro t k
    refine k1 t ?_
    refine own_lsw X0.here hx rfl (pc0 := 1) (pc' := 84) rfl (hb hby d_prog_59_method_4_code_1) rfl (by decide) (o := 83) (by simp only [lookupswitch.offset_cons, lookupswitch.offset_nil, own_ne32 (k := 404) n404, own_ne32 (k := 405) n405, own_ne32 (k := 415) n415, own_ne32 (k := 417) n417, own_ne32 (k := 501) n501, own_ne32 (k := 505) n505, if_false]) (by decide) (by decide) ?_
    show own_At p e below m s₁ 84 #[.val (.int p0)] [] t
    refine XS.iloadN X0.here hx rfl (hb hby d_prog_59_method_4_code_84) rfl ?_
    show own_At p e below m s₁ 85 #[.val (.int p0)] [(.int p0)] t
    refine XS.sipush X0.here hx rfl (hb hby d_prog_59_method_4_code_85) ?_
    show own_At p e below m s₁ 88 #[.val (.int p0)] [(.int (500 : Int32)), (.int p0)] t
    refine XS.icmpNo X0.here hx rfl (hb hby d_prog_59_method_4_code_88) rfl (flt hlt).1 ?_
    show own_At p e below m s₁ 91 #[.val (.int p0)] [] t
    refine st2 _ ?_
    show own_At p e below m T2 94 #[.val (.int p0)] [(.ref a_INTERNAL_ERROR)] t
    refine XS.goto X2.here hx rfl (pc0 := 94) (pc' := 100) rfl (hb hby d_prog_59_method_4_code_94) (by decide) (by decide) ?_
    show own_At p e below m T2 100 #[.val (.int p0)] [(.ref a_INTERNAL_ERROR)] t
    exact k
  obtain ⟨fs, hr, hrun, hended, hW, hsame⟩ := X2.leave (v := some (.ref a_INTERNAL_ERROR)) (fun h => by rw [Bd.returns] at h; cases h)
  refine hNG ⟨_, _, k3 _ ?_, hrun, hended, _, _, rfl, ?_, ⟨_, rfl⟩, hW, hsame.mono (by decide) (by decide)⟩
  · exact retOut X2 hx (t := (.object "com/example/kwota/kwota/server/ErrorReason")) Bd.returns rfl (Or.inr (Or.inr (Or.inr (Or.inr ⟨rfl, rfl, rfl⟩)))) (hb hby d_prog_59_method_4_code_100) hr
  · show Q_ofs_hi Z p0 a_PATH_NOT_FOUND a_METHOD_NOT_ALLOWED a_UNSUPPORTED_MEDIA_TYPE a_EXPECTATION_FAILED a_NOT_IMPLEMENTED a_HTTP_VERSION_NOT_SUPPORTED a_MALFORMED_REQUEST a_INTERNAL_ERROR h0 n0 _ T2.heap _
    rw [e2]
    exact ⟨rfl, N0, rfl⟩
theorem ef_fits_hi (m : MethodId) (x0 : Int32)  : entryFrame m #[(.int x0)] 3 = mkF m 0 #[.val (.int x0), .unset, .unset] [] := by first | (simp [entryFrame, mkF, argsToLocals, Value.category]; done) | rfl
theorem ef_f2 (m : MethodId) (x0 : Addr)  : entryFrame m #[(.ref x0)] 1 = mkF m 0 #[.val (.ref x0)] [] := by first | (simp [entryFrame, mkF, argsToLocals, Value.category]; done) | rfl
theorem d_method_2_code_77 : decode method_2_code 77 = .ok (.aload_n 0, 1) := by decide +kernel
theorem d_method_2_code_78 : decode method_2_code 78 = .ok (.getstatic 31, 3) := by decide +kernel
theorem d_method_2_code_81 : decode method_2_code 81 = .ok (.if_acmp .ne 7, 3) := by decide +kernel
theorem d_method_2_code_84 : decode method_2_code 84 = .ok (.sipush 500, 3) := by decide +kernel
theorem d_method_2_code_87 : decode method_2_code 87 = .ok (.ireturn, 1) := by decide +kernel
def Q_f2 (Z : State) (a_PATH_NOT_FOUND : Addr) (a_METHOD_NOT_ALLOWED : Addr) (a_UNSUPPORTED_MEDIA_TYPE : Addr) (a_EXPECTATION_FAILED : Addr) (a_NOT_IMPLEMENTED : Addr) (a_HTTP_VERSION_NOT_SUPPORTED : Addr) (a_MALFORMED_REQUEST : Addr) (a_INTERNAL_ERROR : Addr) (h0 : Heap) (n0 : Nat) (v : Option Value) (h : Heap) (L : List Loc) : Prop := v = some (.int (500 : Int32)) ∧ Fr n0 L ∧ h = h0
set_option maxRecDepth 65536 in
set_option maxHeartbeats 40000000 in
theorem rm_f2 (l : Launch) (Z : State) (a0 : Array Value) (hw : ∀ d ∈ tables_1, d.before a0 Z = true) (ws : List Jvm.Cond) (a_PATH_NOT_FOUND : Addr) (a_METHOD_NOT_ALLOWED : Addr) (a_UNSUPPORTED_MEDIA_TYPE : Addr) (a_EXPECTATION_FAILED : Addr) (a_NOT_IMPLEMENTED : Addr) (a_HTTP_VERSION_NOT_SUPPORTED : Addr) (a_MALFORMED_REQUEST : Addr) (a_INTERNAL_ERROR : Addr) (h0 : Heap) (n0 : Nat) (O0 : Old Z n0 h0) (hE : EV Z a_PATH_NOT_FOUND a_METHOD_NOT_ALLOWED a_UNSUPPORTED_MEDIA_TYPE a_EXPECTATION_FAILED a_NOT_IMPLEMENTED a_HTTP_VERSION_NOT_SUPPORTED a_MALFORMED_REQUEST a_INTERNAL_ERROR) :
    MetFree l own_m1 (head1 (Jvm.Cond.code own_m1 method_2_code 1 (some .int) :: ws) ({ frames := 0, cells := 0, slots := 0, locals := 0 } : Room)) (fun a U => a = #[(.ref a_INTERNAL_ERROR)] ∧ Z.Warmed39 U.vm ∧ U.heap = h0) (fun _ _ _ _ _ => True) (fun _ U o U' => ∃ v L, o = .returned v ∧ Q_f2 Z a_PATH_NOT_FOUND a_METHOD_NOT_ALLOWED a_UNSUPPORTED_MEDIA_TYPE a_EXPECTATION_FAILED a_NOT_IMPLEMENTED a_HTTP_VERSION_NOT_SUPPORTED a_MALFORMED_REQUEST a_INTERNAL_ERROR h0 n0 v U'.heap L ∧ FrameEnd U o U' L ({ frames := 0, cells := 0, slots := 0, locals := 0 } : Room).cells ({ frames := 0, cells := 0, slots := 0, locals := 0 } : Room).slots) := by
  refine MetFree.of_bodySF (plainFor_of_name pn_com_example_kwota_kwota_server_ErrorReasonOfStatusPinLaw) hisR ?_
  intro p e s m args below meth c s₁ Bd hml0 hP hK
  obtain ⟨rfl, hZ, hh⟩ := hP
  have hx := Bd.exec
  have hby := Bd.bytes
  have hml : c.maxLocals = 1 := hml0
  have hown : s.vm.findClass "com/example/kwota/kwota/server/ErrorReasonOfStatusPinLaw" = some m.cls := findClass_of_methodNamed Bd.named
  have hnm := (name_of_methodNamed Bd.named Bd.method).1
  have X0 : Stand p l e ({ frames := 0, cells := 0, slots := 0, locals := 0 } : Room) s m #[(.ref a_INTERNAL_ERROR)] below meth c s₁ [] 0 0 := Stand.of_body Bd
  have e0 : s₁.heap = h0 := by rw [← hh, Bd.state]; rfl
  have N0 := Fr.nil n0
  refine Classical.byContradiction fun hNG => ?_
  have K0 := Keep.refl h0 []
  have k0 : ∀ t, own_At p e below m s₁ 0 #[.val (.ref a_INTERNAL_ERROR)] [] t → own_En p e below m s₁ #[(.ref a_INTERNAL_ERROR)] 1 t := fun t k => castTop (ef_f2 m a_INTERNAL_ERROR ) k
  obtain ⟨S_PATH_NOT_FOUND, E_PATH_NOT_FOUND, S_METHOD_NOT_ALLOWED, E_METHOD_NOT_ALLOWED, S_UNSUPPORTED_MEDIA_TYPE, E_UNSUPPORTED_MEDIA_TYPE, S_EXPECTATION_FAILED, E_EXPECTATION_FAILED, S_NOT_IMPLEMENTED, E_NOT_IMPLEMENTED, S_HTTP_VERSION_NOT_SUPPORTED, E_HTTP_VERSION_NOT_SUPPORTED, S_MALFORMED_REQUEST, E_MALFORMED_REQUEST, S_INTERNAL_ERROR, E_INTERNAL_ERROR, F_EXPECTATION_FAILED_ordinal, F_PATH_NOT_FOUND_ordinal, F_METHOD_NOT_ALLOWED_ordinal, F_UNSUPPORTED_MEDIA_TYPE_ordinal, F_MALFORMED_REQUEST_ordinal, F_NOT_IMPLEMENTED_ordinal, F_HTTP_VERSION_NOT_SUPPORTED_ordinal, F_INTERNAL_ERROR_ordinal⟩ := (id hE : EV Z a_PATH_NOT_FOUND a_METHOD_NOT_ALLOWED a_UNSUPPORTED_MEDIA_TYPE a_EXPECTATION_FAILED a_NOT_IMPLEMENTED a_HTTP_VERSION_NOT_SUPPORTED a_MALFORMED_REQUEST a_INTERNAL_ERROR)
  obtain ⟨T1, X1, e1, st1⟩ := getS2 X0 hx hZ hown (host := "") (Or.inl (own_w hw 2 rfl)) Via.refl e0 (S_PATH_NOT_FOUND.ext O0.2) (g := (mkF m 1 #[.val (.ref a_INTERNAL_ERROR)] [(.ref a_INTERNAL_ERROR)])) rfl (hb hby d_method_2_code_1)
  obtain ⟨T2, X2, e2, st2⟩ := getS2 X1 hx hZ hown (host := "") (Or.inl (own_w hw 6 rfl)) Via.refl e1 (S_METHOD_NOT_ALLOWED.ext O0.2) (g := (mkF m 12 #[.val (.ref a_INTERNAL_ERROR)] [(.ref a_INTERNAL_ERROR)])) rfl (hb hby d_method_2_code_12)
  obtain ⟨T3, X3, e3, st3⟩ := getS2 X2 hx hZ hown (host := "") (Or.inl (own_w hw 8 rfl)) Via.refl e2 (S_UNSUPPORTED_MEDIA_TYPE.ext O0.2) (g := (mkF m 23 #[.val (.ref a_INTERNAL_ERROR)] [(.ref a_INTERNAL_ERROR)])) rfl (hb hby d_method_2_code_23)
  obtain ⟨T4, X4, e4, st4⟩ := getS2 X3 hx hZ hown (host := "") (Or.inl (own_w hw 10 rfl)) Via.refl e3 (S_EXPECTATION_FAILED.ext O0.2) (g := (mkF m 34 #[.val (.ref a_INTERNAL_ERROR)] [(.ref a_INTERNAL_ERROR)])) rfl (hb hby d_method_2_code_34)
  obtain ⟨T5, X5, e5, st5⟩ := getS2 X4 hx hZ hown (host := "") (Or.inl (own_w hw 12 rfl)) Via.refl e4 (S_NOT_IMPLEMENTED.ext O0.2) (g := (mkF m 45 #[.val (.ref a_INTERNAL_ERROR)] [(.ref a_INTERNAL_ERROR)])) rfl (hb hby d_method_2_code_45)
  obtain ⟨T6, X6, e6, st6⟩ := getS2 X5 hx hZ hown (host := "") (Or.inl (own_w hw 14 rfl)) Via.refl e5 (S_HTTP_VERSION_NOT_SUPPORTED.ext O0.2) (g := (mkF m 56 #[.val (.ref a_INTERNAL_ERROR)] [(.ref a_INTERNAL_ERROR)])) rfl (hb hby d_method_2_code_56)
  obtain ⟨T7, X7, e7, st7⟩ := getS2 X6 hx hZ hown (host := "") (Or.inl (own_w hw 16 rfl)) Via.refl e6 (S_MALFORMED_REQUEST.ext O0.2) (g := (mkF m 67 #[.val (.ref a_INTERNAL_ERROR)] [(.ref a_INTERNAL_ERROR)])) rfl (hb hby d_method_2_code_67)
  obtain ⟨T8, X8, e8, st8⟩ := getS2 X7 hx hZ hown (host := "") (Or.inl (own_w hw 18 rfl)) Via.refl e7 (S_INTERNAL_ERROR.ext O0.2) (g := (mkF m 78 #[.val (.ref a_INTERNAL_ERROR)] [(.ref a_INTERNAL_ERROR)])) rfl (hb hby d_method_2_code_78)
  have k9 : ∀ t, own_At p e below m T8 87 #[.val (.ref a_INTERNAL_ERROR)] [(.int (500 : Int32))] t → own_En p e below m s₁ #[(.ref a_INTERNAL_ERROR)] 1 t := by
    intro t k
    refine k0 t ?_
    refine XS.aloadN X0.here hx rfl (hb hby d_method_2_code_0) rfl rfl ?_
    show own_At p e below m s₁ 1 #[.val (.ref a_INTERNAL_ERROR)] [(.ref a_INTERNAL_ERROR)] t
    refine st1 _ ?_
    show own_At p e below m T1 4 #[.val (.ref a_INTERNAL_ERROR)] [(.ref a_PATH_NOT_FOUND), (.ref a_INTERNAL_ERROR)] t
    refine Jvm.RoadKit.acmp (g := (mkF m 4 #[.val (.ref a_INTERNAL_ERROR)] [(.ref a_PATH_NOT_FOUND), (.ref a_INTERNAL_ERROR)])) X1 hx rfl rfl rfl (pc0 := 4) (pc' := 11) (same := false) rfl (hb hby d_method_2_code_4) rfl (decide_eq_false fun q => (F_INTERNAL_ERROR_ordinal.ne F_PATH_NOT_FOUND_ordinal (fun q => absurd (Value.int.inj q) (by decide))) (Value.ref.inj q)) (by decide) (by decide) ?_
    show own_At p e below m T1 11 #[.val (.ref a_INTERNAL_ERROR)] [] t
    refine XS.aloadN X1.here hx rfl (hb hby d_method_2_code_11) rfl rfl ?_
    show own_At p e below m T1 12 #[.val (.ref a_INTERNAL_ERROR)] [(.ref a_INTERNAL_ERROR)] t
    refine st2 _ ?_
    show own_At p e below m T2 15 #[.val (.ref a_INTERNAL_ERROR)] [(.ref a_METHOD_NOT_ALLOWED), (.ref a_INTERNAL_ERROR)] t
    refine Jvm.RoadKit.acmp (g := (mkF m 15 #[.val (.ref a_INTERNAL_ERROR)] [(.ref a_METHOD_NOT_ALLOWED), (.ref a_INTERNAL_ERROR)])) X2 hx rfl rfl rfl (pc0 := 15) (pc' := 22) (same := false) rfl (hb hby d_method_2_code_15) rfl (decide_eq_false fun q => (F_INTERNAL_ERROR_ordinal.ne F_METHOD_NOT_ALLOWED_ordinal (fun q => absurd (Value.int.inj q) (by decide))) (Value.ref.inj q)) (by decide) (by decide) ?_
    show own_At p e below m T2 22 #[.val (.ref a_INTERNAL_ERROR)] [] t
    refine XS.aloadN X2.here hx rfl (hb hby d_method_2_code_22) rfl rfl ?_
    show own_At p e below m T2 23 #[.val (.ref a_INTERNAL_ERROR)] [(.ref a_INTERNAL_ERROR)] t
    refine st3 _ ?_
    show own_At p e below m T3 26 #[.val (.ref a_INTERNAL_ERROR)] [(.ref a_UNSUPPORTED_MEDIA_TYPE), (.ref a_INTERNAL_ERROR)] t
    refine Jvm.RoadKit.acmp (g := (mkF m 26 #[.val (.ref a_INTERNAL_ERROR)] [(.ref a_UNSUPPORTED_MEDIA_TYPE), (.ref a_INTERNAL_ERROR)])) X3 hx rfl rfl rfl (pc0 := 26) (pc' := 33) (same := false) rfl (hb hby d_method_2_code_26) rfl (decide_eq_false fun q => (F_INTERNAL_ERROR_ordinal.ne F_UNSUPPORTED_MEDIA_TYPE_ordinal (fun q => absurd (Value.int.inj q) (by decide))) (Value.ref.inj q)) (by decide) (by decide) ?_
    show own_At p e below m T3 33 #[.val (.ref a_INTERNAL_ERROR)] [] t
    refine XS.aloadN X3.here hx rfl (hb hby d_method_2_code_33) rfl rfl ?_
    show own_At p e below m T3 34 #[.val (.ref a_INTERNAL_ERROR)] [(.ref a_INTERNAL_ERROR)] t
    refine st4 _ ?_
    show own_At p e below m T4 37 #[.val (.ref a_INTERNAL_ERROR)] [(.ref a_EXPECTATION_FAILED), (.ref a_INTERNAL_ERROR)] t
    refine Jvm.RoadKit.acmp (g := (mkF m 37 #[.val (.ref a_INTERNAL_ERROR)] [(.ref a_EXPECTATION_FAILED), (.ref a_INTERNAL_ERROR)])) X4 hx rfl rfl rfl (pc0 := 37) (pc' := 44) (same := false) rfl (hb hby d_method_2_code_37) rfl (decide_eq_false fun q => (F_INTERNAL_ERROR_ordinal.ne F_EXPECTATION_FAILED_ordinal (fun q => absurd (Value.int.inj q) (by decide))) (Value.ref.inj q)) (by decide) (by decide) ?_
    show own_At p e below m T4 44 #[.val (.ref a_INTERNAL_ERROR)] [] t
    refine XS.aloadN X4.here hx rfl (hb hby d_method_2_code_44) rfl rfl ?_
    show own_At p e below m T4 45 #[.val (.ref a_INTERNAL_ERROR)] [(.ref a_INTERNAL_ERROR)] t
    refine st5 _ ?_
    show own_At p e below m T5 48 #[.val (.ref a_INTERNAL_ERROR)] [(.ref a_NOT_IMPLEMENTED), (.ref a_INTERNAL_ERROR)] t
    refine Jvm.RoadKit.acmp (g := (mkF m 48 #[.val (.ref a_INTERNAL_ERROR)] [(.ref a_NOT_IMPLEMENTED), (.ref a_INTERNAL_ERROR)])) X5 hx rfl rfl rfl (pc0 := 48) (pc' := 55) (same := false) rfl (hb hby d_method_2_code_48) rfl (decide_eq_false fun q => (F_INTERNAL_ERROR_ordinal.ne F_NOT_IMPLEMENTED_ordinal (fun q => absurd (Value.int.inj q) (by decide))) (Value.ref.inj q)) (by decide) (by decide) ?_
    show own_At p e below m T5 55 #[.val (.ref a_INTERNAL_ERROR)] [] t
    refine XS.aloadN X5.here hx rfl (hb hby d_method_2_code_55) rfl rfl ?_
    show own_At p e below m T5 56 #[.val (.ref a_INTERNAL_ERROR)] [(.ref a_INTERNAL_ERROR)] t
    refine st6 _ ?_
    show own_At p e below m T6 59 #[.val (.ref a_INTERNAL_ERROR)] [(.ref a_HTTP_VERSION_NOT_SUPPORTED), (.ref a_INTERNAL_ERROR)] t
    refine Jvm.RoadKit.acmp (g := (mkF m 59 #[.val (.ref a_INTERNAL_ERROR)] [(.ref a_HTTP_VERSION_NOT_SUPPORTED), (.ref a_INTERNAL_ERROR)])) X6 hx rfl rfl rfl (pc0 := 59) (pc' := 66) (same := false) rfl (hb hby d_method_2_code_59) rfl (decide_eq_false fun q => (F_INTERNAL_ERROR_ordinal.ne F_HTTP_VERSION_NOT_SUPPORTED_ordinal (fun q => absurd (Value.int.inj q) (by decide))) (Value.ref.inj q)) (by decide) (by decide) ?_
    show own_At p e below m T6 66 #[.val (.ref a_INTERNAL_ERROR)] [] t
    refine XS.aloadN X6.here hx rfl (hb hby d_method_2_code_66) rfl rfl ?_
    show own_At p e below m T6 67 #[.val (.ref a_INTERNAL_ERROR)] [(.ref a_INTERNAL_ERROR)] t
    refine st7 _ ?_
    show own_At p e below m T7 70 #[.val (.ref a_INTERNAL_ERROR)] [(.ref a_MALFORMED_REQUEST), (.ref a_INTERNAL_ERROR)] t
    refine Jvm.RoadKit.acmp (g := (mkF m 70 #[.val (.ref a_INTERNAL_ERROR)] [(.ref a_MALFORMED_REQUEST), (.ref a_INTERNAL_ERROR)])) X7 hx rfl rfl rfl (pc0 := 70) (pc' := 77) (same := false) rfl (hb hby d_method_2_code_70) rfl (decide_eq_false fun q => (F_INTERNAL_ERROR_ordinal.ne F_MALFORMED_REQUEST_ordinal (fun q => absurd (Value.int.inj q) (by decide))) (Value.ref.inj q)) (by decide) (by decide) ?_
    show own_At p e below m T7 77 #[.val (.ref a_INTERNAL_ERROR)] [] t
    refine XS.aloadN X7.here hx rfl (hb hby d_method_2_code_77) rfl rfl ?_
    show own_At p e below m T7 78 #[.val (.ref a_INTERNAL_ERROR)] [(.ref a_INTERNAL_ERROR)] t
    refine st8 _ ?_
    show own_At p e below m T8 81 #[.val (.ref a_INTERNAL_ERROR)] [(.ref a_INTERNAL_ERROR), (.ref a_INTERNAL_ERROR)] t
    refine Jvm.RoadKit.acmp (g := (mkF m 81 #[.val (.ref a_INTERNAL_ERROR)] [(.ref a_INTERNAL_ERROR), (.ref a_INTERNAL_ERROR)])) X8 hx rfl rfl rfl (pc0 := 81) (pc' := 84) (same := true) rfl (hb hby d_method_2_code_81) rfl (decide_eq_true rfl) (by decide) (by decide) ?_
    show own_At p e below m T8 84 #[.val (.ref a_INTERNAL_ERROR)] [] t
    refine XS.sipush X8.here hx rfl (hb hby d_method_2_code_84) ?_
    show own_At p e below m T8 87 #[.val (.ref a_INTERNAL_ERROR)] [(.int (500 : Int32))] t
    exact k
  obtain ⟨fs, hr, hrun, hended, hW, hsame⟩ := X8.leave (v := some (.int (500 : Int32))) (fun h => by rw [Bd.returns] at h; cases h)
  refine hNG ⟨_, _, k9 _ ?_, hrun, hended, _, _, rfl, ?_, ⟨_, rfl⟩, hW, hsame.mono (by decide) (by decide)⟩
  · exact retOut X8 hx (t := .int) Bd.returns rfl (Or.inl ⟨rfl, Or.inl rfl, _, rfl⟩) (hb hby d_method_2_code_87) hr
  · show Q_f2 Z a_PATH_NOT_FOUND a_METHOD_NOT_ALLOWED a_UNSUPPORTED_MEDIA_TYPE a_EXPECTATION_FAILED a_NOT_IMPLEMENTED a_HTTP_VERSION_NOT_SUPPORTED a_MALFORMED_REQUEST a_INTERNAL_ERROR h0 n0 _ T8.heap _
    rw [e8]
    exact ⟨rfl, N0, rfl⟩
theorem d_method_3_code_30 : decode method_3_code 30 = .ok (.iload_n 0, 1) := by decide +kernel
theorem d_method_3_code_31 : decode method_3_code 31 = .ok (.sipush 500, 3) := by decide +kernel
theorem d_method_3_code_34 : decode method_3_code 34 = .ok (.if_icmp .lt 7, 3) := by decide +kernel
theorem d_method_3_code_37 : decode method_3_code 37 = .ok (.iconst 1, 1) := by decide +kernel
theorem d_method_3_code_38 : decode method_3_code 38 = .ok (.goto 4, 3) := by decide +kernel
theorem d_method_3_code_42 : decode method_3_code 42 = .ok (.ireturn, 1) := by decide +kernel
def Q_fits_hi (Z : State) (p0 : Int32) (a_PATH_NOT_FOUND : Addr) (a_METHOD_NOT_ALLOWED : Addr) (a_UNSUPPORTED_MEDIA_TYPE : Addr) (a_EXPECTATION_FAILED : Addr) (a_NOT_IMPLEMENTED : Addr) (a_HTTP_VERSION_NOT_SUPPORTED : Addr) (a_MALFORMED_REQUEST : Addr) (a_INTERNAL_ERROR : Addr) (h0 : Heap) (n0 : Nat) (v : Option Value) (h : Heap) (L : List Loc) : Prop := v = some (.int (1 : Int32)) ∧ Fr n0 L ∧ h = h0
set_option maxRecDepth 65536 in
set_option maxHeartbeats 40000000 in
theorem rm_fits_hi (l : Launch) (Z : State) (a0 : Array Value) (hw : ∀ d ∈ tables_1, d.before a0 Z = true) (ws : List Jvm.Cond) (p0 : Int32) (a_PATH_NOT_FOUND : Addr) (a_METHOD_NOT_ALLOWED : Addr) (a_UNSUPPORTED_MEDIA_TYPE : Addr) (a_EXPECTATION_FAILED : Addr) (a_NOT_IMPLEMENTED : Addr) (a_HTTP_VERSION_NOT_SUPPORTED : Addr) (a_MALFORMED_REQUEST : Addr) (a_INTERNAL_ERROR : Addr) (h0 : Heap) (n0 : Nat) (O0 : Old Z n0 h0) (hE : EV Z a_PATH_NOT_FOUND a_METHOD_NOT_ALLOWED a_UNSUPPORTED_MEDIA_TYPE a_EXPECTATION_FAILED a_NOT_IMPLEMENTED a_HTTP_VERSION_NOT_SUPPORTED a_MALFORMED_REQUEST a_INTERNAL_ERROR) (n404 : ¬ (p0 = (404 : Int32))) (n405 : ¬ (p0 = (405 : Int32))) (n415 : ¬ (p0 = (415 : Int32))) (n417 : ¬ (p0 = (417 : Int32))) (n501 : ¬ (p0 = (501 : Int32))) (n505 : ¬ (p0 = (505 : Int32))) (hlt : ¬ (p0 < (500 : Int32))) :
    MetFree l own_m2 (head1 (Jvm.Cond.code own_m2 method_3_code 3 (some .boolean) :: ws) ({ frames := 1, cells := 0, slots := 0, locals := 16 } : Room)) (fun a U => a = #[(.int p0)] ∧ Z.Warmed39 U.vm ∧ U.heap = h0) (fun _ _ _ _ _ => True) (fun _ U o U' => ∃ v L, o = .returned v ∧ Q_fits_hi Z p0 a_PATH_NOT_FOUND a_METHOD_NOT_ALLOWED a_UNSUPPORTED_MEDIA_TYPE a_EXPECTATION_FAILED a_NOT_IMPLEMENTED a_HTTP_VERSION_NOT_SUPPORTED a_MALFORMED_REQUEST a_INTERNAL_ERROR h0 n0 v U'.heap L ∧ FrameEnd U o U' L ({ frames := 1, cells := 0, slots := 0, locals := 16 } : Room).cells ({ frames := 1, cells := 0, slots := 0, locals := 16 } : Room).slots) := by
  refine MetFree.of_bodySF (plainFor_of_name pn_com_example_kwota_kwota_server_ErrorReasonOfStatusPinLaw) hisR ?_
  intro p e s m args below meth c s₁ Bd hml0 hP hK
  obtain ⟨rfl, hZ, hh⟩ := hP
  have hx := Bd.exec
  have hby := Bd.bytes
  have hml : c.maxLocals = 3 := hml0
  have hown : s.vm.findClass "com/example/kwota/kwota/server/ErrorReasonOfStatusPinLaw" = some m.cls := findClass_of_methodNamed Bd.named
  have hnm := (name_of_methodNamed Bd.named Bd.method).1
  have X0 : Stand p l e ({ frames := 1, cells := 0, slots := 0, locals := 16 } : Room) s m #[(.int p0)] below meth c s₁ [] 0 0 := Stand.of_body Bd
  have e0 : s₁.heap = h0 := by rw [← hh, Bd.state]; rfl
  have N0 := Fr.nil n0
  refine Classical.byContradiction fun hNG => ?_
  have K0 := Keep.refl h0 []
  have k0 : ∀ t, own_At p e below m s₁ 0 #[.val (.int p0), .unset, .unset] [] t → own_En p e below m s₁ #[(.int p0)] 3 t := fun t k => castTop (ef_fits_hi m p0 ) k
  obtain ⟨S_PATH_NOT_FOUND, E_PATH_NOT_FOUND, S_METHOD_NOT_ALLOWED, E_METHOD_NOT_ALLOWED, S_UNSUPPORTED_MEDIA_TYPE, E_UNSUPPORTED_MEDIA_TYPE, S_EXPECTATION_FAILED, E_EXPECTATION_FAILED, S_NOT_IMPLEMENTED, E_NOT_IMPLEMENTED, S_HTTP_VERSION_NOT_SUPPORTED, E_HTTP_VERSION_NOT_SUPPORTED, S_MALFORMED_REQUEST, E_MALFORMED_REQUEST, S_INTERNAL_ERROR, E_INTERNAL_ERROR, F_EXPECTATION_FAILED_ordinal, F_PATH_NOT_FOUND_ordinal, F_METHOD_NOT_ALLOWED_ordinal, F_UNSUPPORTED_MEDIA_TYPE_ordinal, F_MALFORMED_REQUEST_ordinal, F_NOT_IMPLEMENTED_ordinal, F_HTTP_VERSION_NOT_SUPPORTED_ordinal, F_INTERNAL_ERROR_ordinal⟩ := (id hE : EV Z a_PATH_NOT_FOUND a_METHOD_NOT_ALLOWED a_UNSUPPORTED_MEDIA_TYPE a_EXPECTATION_FAILED a_NOT_IMPLEMENTED a_HTTP_VERSION_NOT_SUPPORTED a_MALFORMED_REQUEST a_INTERNAL_ERROR)
  obtain ⟨_, _, ⟨T1, L1, k1, n1⟩, -, X1, ⟨Lc1, hQ1, l1, y1, z1⟩, st1⟩ := Jvm.LawKit.callS X0 hx (y := own_m0) hown (mvT hZ (own_w hw 27 rfl)) (mvT hZ (own_w hw 28 rfl)) (mvT hZ (own_w hw 3 rfl)) (mvT hZ (own_w hw 29 rfl)) (by decide) (backOf (W := 0) (rm_ofs_hi l Z a0 hw [] p0 _ _ _ _ _ _ _ _ h0 n0 O0 hE n404 n405 n415 n417 n501 n505 hlt) hZ (own_w hw 29 rfl) (own_w hw 3 rfl) (by decide) (by decide)) (g := (mkF m 1 #[.val (.int p0), .unset, .unset] [(.int p0)])) rfl (by rw [hml]; rfl) (argsL := [(.int p0)]) (rest := []) (lenOf pd__I_Lcom_example_kwota_kwota_server_ErrorReason_ rfl) rfl (by show 2 * 0 + _ ≤ _; exact Nat.le_of_eq rfl) (hb hby d_method_3_code_1) (fun _ _ => ⟨rfl, e0, (by decide : 0 + 0 ≤ _), (by decide : 0 + 0 ≤ _)⟩)
  dsimp only [Pt.U, Pt.locs, Pt.cells, Pt.slots] at X1 l1 y1 z1 st1 hQ1
  subst l1 y1 z1
  obtain ⟨rfl, N1q, hp1⟩ := hQ1
  have N1 := Fr.app N0 N1q
  obtain ⟨_, _, ⟨T2, L2, k2, n2⟩, -, X2, ⟨Lc2, hQ2, l2, y2, z2⟩, st2⟩ := Jvm.LawKit.callS X1 hx (y := own_m1) hown (mvT hZ (own_w hw 20 rfl)) (mvT hZ (own_w hw 21 rfl)) (mvT hZ (own_w hw 22 rfl)) (mvT hZ (own_w hw 23 rfl)) (by decide) (backOf (W := 0) (rm_f2 l Z a0 hw []  _ _ _ _ _ _ _ _ h0 n0 O0 hE) hZ (own_w hw 23 rfl) (own_w hw 22 rfl) (by decide) (by decide)) (g := (mkF m 6 #[.val (.int p0), .val (.ref a_INTERNAL_ERROR), .unset] [(.ref a_INTERNAL_ERROR)])) rfl (by rw [hml]; rfl) (argsL := [(.ref a_INTERNAL_ERROR)]) (rest := []) (lenOf pd__Lcom_example_kwota_kwota_server_ErrorReason__I rfl) rfl (by show 2 * 0 + _ ≤ _; exact Nat.le_of_eq rfl) (hb hby d_method_3_code_6) (fun _ _ => ⟨rfl, hp1, (by decide : 0 + 0 ≤ _), (by decide : 0 + 0 ≤ _)⟩)
  dsimp only [Pt.U, Pt.locs, Pt.cells, Pt.slots] at X2 l2 y2 z2 st2 hQ2
  subst l2 y2 z2
  obtain ⟨rfl, N2q, hp2⟩ := hQ2
  have N2 := Fr.app N1 N2q
  have k3 : ∀ t, own_At p e below m T2 18 #[.val (.int p0), .val (.ref a_INTERNAL_ERROR), .val (.int (500 : Int32))] [(.int p0), (.int (500 : Int32))] t → own_En p e below m s₁ #[(.int p0)] 3 t := by
    intro t k
    refine k0 t ?_
    refine XS.iloadN X0.here hx rfl (hb hby d_method_3_code_0) rfl ?_
    show own_At p e below m s₁ 1 #[.val (.int p0), .unset, .unset] [(.int p0)] t
    refine st1 _ ?_
    show own_At p e below m T1 4 #[.val (.int p0), .unset, .unset] [(.ref a_INTERNAL_ERROR)] t
    refine XS.astoreN X1.here hx rfl (hb hby d_method_3_code_4) rfl rfl (l' := #[.val (.int p0), .val (.ref a_INTERNAL_ERROR), .unset]) rfl ?_
    show own_At p e below m T1 5 #[.val (.int p0), .val (.ref a_INTERNAL_ERROR), .unset] [] t
    refine XS.aloadN X1.here hx rfl (hb hby d_method_3_code_5) rfl rfl ?_
    show own_At p e below m T1 6 #[.val (.int p0), .val (.ref a_INTERNAL_ERROR), .unset] [(.ref a_INTERNAL_ERROR)] t
    refine st2 _ ?_
    show own_At p e below m T2 9 #[.val (.int p0), .val (.ref a_INTERNAL_ERROR), .unset] [(.int (500 : Int32))] t
    refine XS.istoreN X2.here hx rfl (hb hby d_method_3_code_9) rfl (l' := #[.val (.int p0), .val (.ref a_INTERNAL_ERROR), .val (.int (500 : Int32))]) rfl ?_
    show own_At p e below m T2 10 #[.val (.int p0), .val (.ref a_INTERNAL_ERROR), .val (.int (500 : Int32))] [] t
    refine XS.iloadN X2.here hx rfl (hb hby d_method_3_code_10) rfl ?_
    show own_At p e below m T2 11 #[.val (.int p0), .val (.ref a_INTERNAL_ERROR), .val (.int (500 : Int32))] [(.int (500 : Int32))] t
    refine XS.ifYes X2.here hx rfl (pc0 := 11) (pc' := 16) rfl (hb hby d_method_3_code_11) rfl ((if0 _ _).trans (tlt (by decide : (0 : Int32) < (500 : Int32))).2.2.1) (by decide) (by decide) ?_
    show own_At p e below m T2 16 #[.val (.int p0), .val (.ref a_INTERNAL_ERROR), .val (.int (500 : Int32))] [] t
    refine XS.iloadN X2.here hx rfl (hb hby d_method_3_code_16) rfl ?_
    show own_At p e below m T2 17 #[.val (.int p0), .val (.ref a_INTERNAL_ERROR), .val (.int (500 : Int32))] [(.int (500 : Int32))] t
    refine XS.iloadN X2.here hx rfl (hb hby d_method_3_code_17) rfl ?_
    show own_At p e below m T2 18 #[.val (.int p0), .val (.ref a_INTERNAL_ERROR), .val (.int (500 : Int32))] [(.int p0), (.int (500 : Int32))] t
    exact k
  by_cases hc4 : p0 = (500 : Int32)
  · have k5 : ∀ t, own_At p e below m T2 22 #[.val (.int p0), .val (.ref a_INTERNAL_ERROR), .val (.int (500 : Int32))] [(.int (1 : Int32))] t → own_En p e below m s₁ #[(.int p0)] 3 t := by
      intro t k
      refine k3 t ?_
      refine XS.icmpNo X2.here hx rfl (hb hby d_method_3_code_18) rfl (teq (hc4).symm).2 ?_
      show own_At p e below m T2 21 #[.val (.int p0), .val (.ref a_INTERNAL_ERROR), .val (.int (500 : Int32))] [] t
      refine XS.iconst X2.here hx rfl (hb hby d_method_3_code_21) ?_
      show own_At p e below m T2 22 #[.val (.int p0), .val (.ref a_INTERNAL_ERROR), .val (.int (500 : Int32))] [(.int (1 : Int32))] t
      exact k
    obtain ⟨fs, hr, hrun, hended, hW, hsame⟩ := X2.leave (v := some (.int (1 : Int32))) (fun h => by rw [Bd.returns] at h; cases h)
    refine hNG ⟨_, _, k5 _ ?_, hrun, hended, _, _, rfl, ?_, ⟨_, rfl⟩, hW, hsame.mono (by decide) (by decide)⟩
    · exact retN X2 hx (t := .boolean) Bd.returns (by simp) (hb hby d_method_3_code_22) hr
    · show Q_fits_hi Z p0 a_PATH_NOT_FOUND a_METHOD_NOT_ALLOWED a_UNSUPPORTED_MEDIA_TYPE a_EXPECTATION_FAILED a_NOT_IMPLEMENTED a_HTTP_VERSION_NOT_SUPPORTED a_MALFORMED_REQUEST a_INTERNAL_ERROR h0 n0 _ T2.heap _
      rw [hp2]
      exact ⟨rfl, N2, rfl⟩
  · obtain ⟨T6, X6, e6, st6⟩ := getS2 X2 hx hZ hown (host := "") (Or.inl (own_w hw 18 rfl)) Via.refl hp2 (S_INTERNAL_ERROR.ext O0.2) (g := (mkF m 24 #[.val (.int p0), .val (.ref a_INTERNAL_ERROR), .val (.int (500 : Int32))] [(.ref a_INTERNAL_ERROR)])) rfl (hb hby d_method_3_code_24)
    have k7 : ∀ t, own_At p e below m T6 42 #[.val (.int p0), .val (.ref a_INTERNAL_ERROR), .val (.int (500 : Int32))] [(.int (1 : Int32))] t → own_En p e below m s₁ #[(.int p0)] 3 t := by
      intro t k
      refine k3 t ?_
      refine XS.icmpYes X2.here hx rfl (pc0 := 18) (pc' := 23) rfl (hb hby d_method_3_code_18) rfl (feq (fun q => hc4 q.symm)).2 (by decide) (by decide) ?_
      show own_At p e below m T2 23 #[.val (.int p0), .val (.ref a_INTERNAL_ERROR), .val (.int (500 : Int32))] [] t
      refine XS.aloadN X2.here hx rfl (hb hby d_method_3_code_23) rfl rfl ?_
      show own_At p e below m T2 24 #[.val (.int p0), .val (.ref a_INTERNAL_ERROR), .val (.int (500 : Int32))] [(.ref a_INTERNAL_ERROR)] t
      refine st6 _ ?_
      show own_At p e below m T6 27 #[.val (.int p0), .val (.ref a_INTERNAL_ERROR), .val (.int (500 : Int32))] [(.ref a_INTERNAL_ERROR), (.ref a_INTERNAL_ERROR)] t
      refine Jvm.RoadKit.acmp (g := (mkF m 27 #[.val (.int p0), .val (.ref a_INTERNAL_ERROR), .val (.int (500 : Int32))] [(.ref a_INTERNAL_ERROR), (.ref a_INTERNAL_ERROR)])) X6 hx rfl rfl rfl (pc0 := 27) (pc' := 30) (same := true) rfl (hb hby d_method_3_code_27) rfl (decide_eq_true rfl) (by decide) (by decide) ?_
      show own_At p e below m T6 30 #[.val (.int p0), .val (.ref a_INTERNAL_ERROR), .val (.int (500 : Int32))] [] t
      refine XS.iloadN X6.here hx rfl (hb hby d_method_3_code_30) rfl ?_
      show own_At p e below m T6 31 #[.val (.int p0), .val (.ref a_INTERNAL_ERROR), .val (.int (500 : Int32))] [(.int p0)] t
      refine XS.sipush X6.here hx rfl (hb hby d_method_3_code_31) ?_
      show own_At p e below m T6 34 #[.val (.int p0), .val (.ref a_INTERNAL_ERROR), .val (.int (500 : Int32))] [(.int (500 : Int32)), (.int p0)] t
      refine XS.icmpNo X6.here hx rfl (hb hby d_method_3_code_34) rfl (flt hlt).1 ?_
      show own_At p e below m T6 37 #[.val (.int p0), .val (.ref a_INTERNAL_ERROR), .val (.int (500 : Int32))] [] t
      refine XS.iconst X6.here hx rfl (hb hby d_method_3_code_37) ?_
      show own_At p e below m T6 38 #[.val (.int p0), .val (.ref a_INTERNAL_ERROR), .val (.int (500 : Int32))] [(.int (1 : Int32))] t
      refine XS.goto X6.here hx rfl (pc0 := 38) (pc' := 42) rfl (hb hby d_method_3_code_38) (by decide) (by decide) ?_
      show own_At p e below m T6 42 #[.val (.int p0), .val (.ref a_INTERNAL_ERROR), .val (.int (500 : Int32))] [(.int (1 : Int32))] t
      exact k
    obtain ⟨fs, hr, hrun, hended, hW, hsame⟩ := X6.leave (v := some (.int (1 : Int32))) (fun h => by rw [Bd.returns] at h; cases h)
    refine hNG ⟨_, _, k7 _ ?_, hrun, hended, _, _, rfl, ?_, ⟨_, rfl⟩, hW, hsame.mono (by decide) (by decide)⟩
    · exact retN X6 hx (t := .boolean) Bd.returns (by simp) (hb hby d_method_3_code_42) hr
    · show Q_fits_hi Z p0 a_PATH_NOT_FOUND a_METHOD_NOT_ALLOWED a_UNSUPPORTED_MEDIA_TYPE a_EXPECTATION_FAILED a_NOT_IMPLEMENTED a_HTTP_VERSION_NOT_SUPPORTED a_MALFORMED_REQUEST a_INTERNAL_ERROR h0 n0 _ T6.heap _
      rw [e6]
      exact ⟨rfl, N2, rfl⟩
theorem ef_f3 (m : MethodId) (x0 : Int32)  : entryFrame m #[(.int x0)] 3 = mkF m 0 #[.val (.int x0), .unset, .unset] [] := by first | (simp [entryFrame, mkF, argsToLocals, Value.category]; done) | rfl
theorem ef_f4 (m : MethodId) (x0 : Int32)  : entryFrame m #[(.int x0)] 1 = mkF m 0 #[.val (.int x0)] [] := by first | (simp [entryFrame, mkF, argsToLocals, Value.category]; done) | rfl
theorem d_prog_59_method_4_code_60 : decode prog_59_method_4_code 60 = .ok (.getstatic 46, 3) := by decide +kernel
theorem d_prog_59_method_4_code_63 : decode prog_59_method_4_code 63 = .ok (.areturn, 1) := by decide +kernel
def Q_f4 (Z : State) (a_PATH_NOT_FOUND : Addr) (a_METHOD_NOT_ALLOWED : Addr) (a_UNSUPPORTED_MEDIA_TYPE : Addr) (a_EXPECTATION_FAILED : Addr) (a_NOT_IMPLEMENTED : Addr) (a_HTTP_VERSION_NOT_SUPPORTED : Addr) (a_MALFORMED_REQUEST : Addr) (a_INTERNAL_ERROR : Addr) (h0 : Heap) (n0 : Nat) (v : Option Value) (h : Heap) (L : List Loc) : Prop := v = some (.ref a_PATH_NOT_FOUND) ∧ Fr n0 L ∧ h = h0
set_option maxRecDepth 65536 in
set_option maxHeartbeats 40000000 in
theorem rm_f4 (l : Launch) (Z : State) (a0 : Array Value) (hw : ∀ d ∈ tables_1, d.before a0 Z = true) (ws : List Jvm.Cond) (a_PATH_NOT_FOUND : Addr) (a_METHOD_NOT_ALLOWED : Addr) (a_UNSUPPORTED_MEDIA_TYPE : Addr) (a_EXPECTATION_FAILED : Addr) (a_NOT_IMPLEMENTED : Addr) (a_HTTP_VERSION_NOT_SUPPORTED : Addr) (a_MALFORMED_REQUEST : Addr) (a_INTERNAL_ERROR : Addr) (h0 : Heap) (n0 : Nat) (O0 : Old Z n0 h0) (hE : EV Z a_PATH_NOT_FOUND a_METHOD_NOT_ALLOWED a_UNSUPPORTED_MEDIA_TYPE a_EXPECTATION_FAILED a_NOT_IMPLEMENTED a_HTTP_VERSION_NOT_SUPPORTED a_MALFORMED_REQUEST a_INTERNAL_ERROR) :
    MetFree l own_m0 (head1 (Jvm.Cond.code own_m0 prog_59_method_4_code 1 (some (.object "com/example/kwota/kwota/server/ErrorReason")) :: ws) ({ frames := 0, cells := 0, slots := 0, locals := 0 } : Room)) (fun a U => a = #[(.int (404 : Int32))] ∧ Z.Warmed39 U.vm ∧ U.heap = h0) (fun _ _ _ _ _ => True) (fun _ U o U' => ∃ v L, o = .returned v ∧ Q_f4 Z a_PATH_NOT_FOUND a_METHOD_NOT_ALLOWED a_UNSUPPORTED_MEDIA_TYPE a_EXPECTATION_FAILED a_NOT_IMPLEMENTED a_HTTP_VERSION_NOT_SUPPORTED a_MALFORMED_REQUEST a_INTERNAL_ERROR h0 n0 v U'.heap L ∧ FrameEnd U o U' L ({ frames := 0, cells := 0, slots := 0, locals := 0 } : Room).cells ({ frames := 0, cells := 0, slots := 0, locals := 0 } : Room).slots) := by
  refine MetFree.of_bodySF (plainFor_of_name pn_com_example_kwota_kwota_server_ErrorReason) hisR ?_
  intro p e s m args below meth c s₁ Bd hml0 hP hK
  obtain ⟨rfl, hZ, hh⟩ := hP
  have hx := Bd.exec
  have hby := Bd.bytes
  have hml : c.maxLocals = 1 := hml0
  have hown : s.vm.findClass "com/example/kwota/kwota/server/ErrorReason" = some m.cls := findClass_of_methodNamed Bd.named
  have hnm := (name_of_methodNamed Bd.named Bd.method).1
  have X0 : Stand p l e ({ frames := 0, cells := 0, slots := 0, locals := 0 } : Room) s m #[(.int (404 : Int32))] below meth c s₁ [] 0 0 := Stand.of_body Bd
  have e0 : s₁.heap = h0 := by rw [← hh, Bd.state]; rfl
  have N0 := Fr.nil n0
  refine Classical.byContradiction fun hNG => ?_
  have K0 := Keep.refl h0 []
  have k0 : ∀ t, own_At p e below m s₁ 0 #[.val (.int (404 : Int32))] [] t → own_En p e below m s₁ #[(.int (404 : Int32))] 1 t := fun t k => castTop (ef_f4 m ((404 : Int32)) ) k
  obtain ⟨S_PATH_NOT_FOUND, E_PATH_NOT_FOUND, S_METHOD_NOT_ALLOWED, E_METHOD_NOT_ALLOWED, S_UNSUPPORTED_MEDIA_TYPE, E_UNSUPPORTED_MEDIA_TYPE, S_EXPECTATION_FAILED, E_EXPECTATION_FAILED, S_NOT_IMPLEMENTED, E_NOT_IMPLEMENTED, S_HTTP_VERSION_NOT_SUPPORTED, E_HTTP_VERSION_NOT_SUPPORTED, S_MALFORMED_REQUEST, E_MALFORMED_REQUEST, S_INTERNAL_ERROR, E_INTERNAL_ERROR, F_EXPECTATION_FAILED_ordinal, F_PATH_NOT_FOUND_ordinal, F_METHOD_NOT_ALLOWED_ordinal, F_UNSUPPORTED_MEDIA_TYPE_ordinal, F_MALFORMED_REQUEST_ordinal, F_NOT_IMPLEMENTED_ordinal, F_HTTP_VERSION_NOT_SUPPORTED_ordinal, F_INTERNAL_ERROR_ordinal⟩ := (id hE : EV Z a_PATH_NOT_FOUND a_METHOD_NOT_ALLOWED a_UNSUPPORTED_MEDIA_TYPE a_EXPECTATION_FAILED a_NOT_IMPLEMENTED a_HTTP_VERSION_NOT_SUPPORTED a_MALFORMED_REQUEST a_INTERNAL_ERROR)
  obtain ⟨T1, X1, e1, st1⟩ := getS2 X0 hx hZ hown (host := "") (Or.inl (own_w hw 34 rfl)) Via.refl e0 (S_PATH_NOT_FOUND.ext O0.2) (g := (mkF m 60 #[.val (.int (404 : Int32))] [])) rfl (hb hby d_prog_59_method_4_code_60)
  have k2 : ∀ t, own_At p e below m T1 63 #[.val (.int (404 : Int32))] [(.ref a_PATH_NOT_FOUND)] t → own_En p e below m s₁ #[(.int (404 : Int32))] 1 t := by
    intro t k
    refine k0 t ?_
    refine XS.iloadN X0.here hx rfl (hb hby d_prog_59_method_4_code_0) rfl ?_
    show own_At p e below m s₁ 1 #[.val (.int (404 : Int32))] [(.int (404 : Int32))] t
    refine own_lsw X0.here hx rfl (pc0 := 1) (pc' := 60) rfl (hb hby d_prog_59_method_4_code_1) rfl (by decide) (o := 59) (by decide) (by decide) (by decide) ?_
    show own_At p e below m s₁ 60 #[.val (.int (404 : Int32))] [] t
    refine st1 _ ?_
    show own_At p e below m T1 63 #[.val (.int (404 : Int32))] [(.ref a_PATH_NOT_FOUND)] t
    exact k
  obtain ⟨fs, hr, hrun, hended, hW, hsame⟩ := X1.leave (v := some (.ref a_PATH_NOT_FOUND)) (fun h => by rw [Bd.returns] at h; cases h)
  refine hNG ⟨_, _, k2 _ ?_, hrun, hended, _, _, rfl, ?_, ⟨_, rfl⟩, hW, hsame.mono (by decide) (by decide)⟩
  · exact retOut X1 hx (t := (.object "com/example/kwota/kwota/server/ErrorReason")) Bd.returns rfl (Or.inr (Or.inr (Or.inr (Or.inr ⟨rfl, rfl, rfl⟩)))) (hb hby d_prog_59_method_4_code_63) hr
  · show Q_f4 Z a_PATH_NOT_FOUND a_METHOD_NOT_ALLOWED a_UNSUPPORTED_MEDIA_TYPE a_EXPECTATION_FAILED a_NOT_IMPLEMENTED a_HTTP_VERSION_NOT_SUPPORTED a_MALFORMED_REQUEST a_INTERNAL_ERROR h0 n0 _ T1.heap _
    rw [e1]
    exact ⟨rfl, N0, rfl⟩
theorem ef_f5 (m : MethodId) (x0 : Addr)  : entryFrame m #[(.ref x0)] 1 = mkF m 0 #[.val (.ref x0)] [] := by first | (simp [entryFrame, mkF, argsToLocals, Value.category]; done) | rfl
theorem d_method_2_code_7 : decode method_2_code 7 = .ok (.sipush 404, 3) := by decide +kernel
theorem d_method_2_code_10 : decode method_2_code 10 = .ok (.ireturn, 1) := by decide +kernel
def Q_f5 (Z : State) (a_PATH_NOT_FOUND : Addr) (a_METHOD_NOT_ALLOWED : Addr) (a_UNSUPPORTED_MEDIA_TYPE : Addr) (a_EXPECTATION_FAILED : Addr) (a_NOT_IMPLEMENTED : Addr) (a_HTTP_VERSION_NOT_SUPPORTED : Addr) (a_MALFORMED_REQUEST : Addr) (a_INTERNAL_ERROR : Addr) (h0 : Heap) (n0 : Nat) (v : Option Value) (h : Heap) (L : List Loc) : Prop := v = some (.int (404 : Int32)) ∧ Fr n0 L ∧ h = h0
set_option maxRecDepth 65536 in
set_option maxHeartbeats 40000000 in
theorem rm_f5 (l : Launch) (Z : State) (a0 : Array Value) (hw : ∀ d ∈ tables_1, d.before a0 Z = true) (ws : List Jvm.Cond) (a_PATH_NOT_FOUND : Addr) (a_METHOD_NOT_ALLOWED : Addr) (a_UNSUPPORTED_MEDIA_TYPE : Addr) (a_EXPECTATION_FAILED : Addr) (a_NOT_IMPLEMENTED : Addr) (a_HTTP_VERSION_NOT_SUPPORTED : Addr) (a_MALFORMED_REQUEST : Addr) (a_INTERNAL_ERROR : Addr) (h0 : Heap) (n0 : Nat) (O0 : Old Z n0 h0) (hE : EV Z a_PATH_NOT_FOUND a_METHOD_NOT_ALLOWED a_UNSUPPORTED_MEDIA_TYPE a_EXPECTATION_FAILED a_NOT_IMPLEMENTED a_HTTP_VERSION_NOT_SUPPORTED a_MALFORMED_REQUEST a_INTERNAL_ERROR) :
    MetFree l own_m1 (head1 (Jvm.Cond.code own_m1 method_2_code 1 (some .int) :: ws) ({ frames := 0, cells := 0, slots := 0, locals := 0 } : Room)) (fun a U => a = #[(.ref a_PATH_NOT_FOUND)] ∧ Z.Warmed39 U.vm ∧ U.heap = h0) (fun _ _ _ _ _ => True) (fun _ U o U' => ∃ v L, o = .returned v ∧ Q_f5 Z a_PATH_NOT_FOUND a_METHOD_NOT_ALLOWED a_UNSUPPORTED_MEDIA_TYPE a_EXPECTATION_FAILED a_NOT_IMPLEMENTED a_HTTP_VERSION_NOT_SUPPORTED a_MALFORMED_REQUEST a_INTERNAL_ERROR h0 n0 v U'.heap L ∧ FrameEnd U o U' L ({ frames := 0, cells := 0, slots := 0, locals := 0 } : Room).cells ({ frames := 0, cells := 0, slots := 0, locals := 0 } : Room).slots) := by
  refine MetFree.of_bodySF (plainFor_of_name pn_com_example_kwota_kwota_server_ErrorReasonOfStatusPinLaw) hisR ?_
  intro p e s m args below meth c s₁ Bd hml0 hP hK
  obtain ⟨rfl, hZ, hh⟩ := hP
  have hx := Bd.exec
  have hby := Bd.bytes
  have hml : c.maxLocals = 1 := hml0
  have hown : s.vm.findClass "com/example/kwota/kwota/server/ErrorReasonOfStatusPinLaw" = some m.cls := findClass_of_methodNamed Bd.named
  have hnm := (name_of_methodNamed Bd.named Bd.method).1
  have X0 : Stand p l e ({ frames := 0, cells := 0, slots := 0, locals := 0 } : Room) s m #[(.ref a_PATH_NOT_FOUND)] below meth c s₁ [] 0 0 := Stand.of_body Bd
  have e0 : s₁.heap = h0 := by rw [← hh, Bd.state]; rfl
  have N0 := Fr.nil n0
  refine Classical.byContradiction fun hNG => ?_
  have K0 := Keep.refl h0 []
  have k0 : ∀ t, own_At p e below m s₁ 0 #[.val (.ref a_PATH_NOT_FOUND)] [] t → own_En p e below m s₁ #[(.ref a_PATH_NOT_FOUND)] 1 t := fun t k => castTop (ef_f5 m a_PATH_NOT_FOUND ) k
  obtain ⟨S_PATH_NOT_FOUND, E_PATH_NOT_FOUND, S_METHOD_NOT_ALLOWED, E_METHOD_NOT_ALLOWED, S_UNSUPPORTED_MEDIA_TYPE, E_UNSUPPORTED_MEDIA_TYPE, S_EXPECTATION_FAILED, E_EXPECTATION_FAILED, S_NOT_IMPLEMENTED, E_NOT_IMPLEMENTED, S_HTTP_VERSION_NOT_SUPPORTED, E_HTTP_VERSION_NOT_SUPPORTED, S_MALFORMED_REQUEST, E_MALFORMED_REQUEST, S_INTERNAL_ERROR, E_INTERNAL_ERROR, F_EXPECTATION_FAILED_ordinal, F_PATH_NOT_FOUND_ordinal, F_METHOD_NOT_ALLOWED_ordinal, F_UNSUPPORTED_MEDIA_TYPE_ordinal, F_MALFORMED_REQUEST_ordinal, F_NOT_IMPLEMENTED_ordinal, F_HTTP_VERSION_NOT_SUPPORTED_ordinal, F_INTERNAL_ERROR_ordinal⟩ := (id hE : EV Z a_PATH_NOT_FOUND a_METHOD_NOT_ALLOWED a_UNSUPPORTED_MEDIA_TYPE a_EXPECTATION_FAILED a_NOT_IMPLEMENTED a_HTTP_VERSION_NOT_SUPPORTED a_MALFORMED_REQUEST a_INTERNAL_ERROR)
  obtain ⟨T1, X1, e1, st1⟩ := getS2 X0 hx hZ hown (host := "") (Or.inl (own_w hw 2 rfl)) Via.refl e0 (S_PATH_NOT_FOUND.ext O0.2) (g := (mkF m 1 #[.val (.ref a_PATH_NOT_FOUND)] [(.ref a_PATH_NOT_FOUND)])) rfl (hb hby d_method_2_code_1)
  have k2 : ∀ t, own_At p e below m T1 10 #[.val (.ref a_PATH_NOT_FOUND)] [(.int (404 : Int32))] t → own_En p e below m s₁ #[(.ref a_PATH_NOT_FOUND)] 1 t := by
    intro t k
    refine k0 t ?_
    refine XS.aloadN X0.here hx rfl (hb hby d_method_2_code_0) rfl rfl ?_
    show own_At p e below m s₁ 1 #[.val (.ref a_PATH_NOT_FOUND)] [(.ref a_PATH_NOT_FOUND)] t
    refine st1 _ ?_
    show own_At p e below m T1 4 #[.val (.ref a_PATH_NOT_FOUND)] [(.ref a_PATH_NOT_FOUND), (.ref a_PATH_NOT_FOUND)] t
    refine Jvm.RoadKit.acmp (g := (mkF m 4 #[.val (.ref a_PATH_NOT_FOUND)] [(.ref a_PATH_NOT_FOUND), (.ref a_PATH_NOT_FOUND)])) X1 hx rfl rfl rfl (pc0 := 4) (pc' := 7) (same := true) rfl (hb hby d_method_2_code_4) rfl (decide_eq_true rfl) (by decide) (by decide) ?_
    show own_At p e below m T1 7 #[.val (.ref a_PATH_NOT_FOUND)] [] t
    refine XS.sipush X1.here hx rfl (hb hby d_method_2_code_7) ?_
    show own_At p e below m T1 10 #[.val (.ref a_PATH_NOT_FOUND)] [(.int (404 : Int32))] t
    exact k
  obtain ⟨fs, hr, hrun, hended, hW, hsame⟩ := X1.leave (v := some (.int (404 : Int32))) (fun h => by rw [Bd.returns] at h; cases h)
  refine hNG ⟨_, _, k2 _ ?_, hrun, hended, _, _, rfl, ?_, ⟨_, rfl⟩, hW, hsame.mono (by decide) (by decide)⟩
  · exact retOut X1 hx (t := .int) Bd.returns rfl (Or.inl ⟨rfl, Or.inl rfl, _, rfl⟩) (hb hby d_method_2_code_10) hr
  · show Q_f5 Z a_PATH_NOT_FOUND a_METHOD_NOT_ALLOWED a_UNSUPPORTED_MEDIA_TYPE a_EXPECTATION_FAILED a_NOT_IMPLEMENTED a_HTTP_VERSION_NOT_SUPPORTED a_MALFORMED_REQUEST a_INTERNAL_ERROR h0 n0 _ T1.heap _
    rw [e1]
    exact ⟨rfl, N0, rfl⟩
def Q_f3 (Z : State) (a_PATH_NOT_FOUND : Addr) (a_METHOD_NOT_ALLOWED : Addr) (a_UNSUPPORTED_MEDIA_TYPE : Addr) (a_EXPECTATION_FAILED : Addr) (a_NOT_IMPLEMENTED : Addr) (a_HTTP_VERSION_NOT_SUPPORTED : Addr) (a_MALFORMED_REQUEST : Addr) (a_INTERNAL_ERROR : Addr) (h0 : Heap) (n0 : Nat) (v : Option Value) (h : Heap) (L : List Loc) : Prop := v = some (.int (1 : Int32)) ∧ Fr n0 L ∧ h = h0
set_option maxRecDepth 65536 in
set_option maxHeartbeats 40000000 in
theorem rm_f3 (l : Launch) (Z : State) (a0 : Array Value) (hw : ∀ d ∈ tables_1, d.before a0 Z = true) (ws : List Jvm.Cond) (a_PATH_NOT_FOUND : Addr) (a_METHOD_NOT_ALLOWED : Addr) (a_UNSUPPORTED_MEDIA_TYPE : Addr) (a_EXPECTATION_FAILED : Addr) (a_NOT_IMPLEMENTED : Addr) (a_HTTP_VERSION_NOT_SUPPORTED : Addr) (a_MALFORMED_REQUEST : Addr) (a_INTERNAL_ERROR : Addr) (h0 : Heap) (n0 : Nat) (O0 : Old Z n0 h0) (hE : EV Z a_PATH_NOT_FOUND a_METHOD_NOT_ALLOWED a_UNSUPPORTED_MEDIA_TYPE a_EXPECTATION_FAILED a_NOT_IMPLEMENTED a_HTTP_VERSION_NOT_SUPPORTED a_MALFORMED_REQUEST a_INTERNAL_ERROR) :
    MetFree l own_m2 (head1 (Jvm.Cond.code own_m2 method_3_code 3 (some .boolean) :: ws) ({ frames := 1, cells := 0, slots := 0, locals := 16 } : Room)) (fun a U => a = #[(.int (404 : Int32))] ∧ Z.Warmed39 U.vm ∧ U.heap = h0) (fun _ _ _ _ _ => True) (fun _ U o U' => ∃ v L, o = .returned v ∧ Q_f3 Z a_PATH_NOT_FOUND a_METHOD_NOT_ALLOWED a_UNSUPPORTED_MEDIA_TYPE a_EXPECTATION_FAILED a_NOT_IMPLEMENTED a_HTTP_VERSION_NOT_SUPPORTED a_MALFORMED_REQUEST a_INTERNAL_ERROR h0 n0 v U'.heap L ∧ FrameEnd U o U' L ({ frames := 1, cells := 0, slots := 0, locals := 16 } : Room).cells ({ frames := 1, cells := 0, slots := 0, locals := 16 } : Room).slots) := by
  refine MetFree.of_bodySF (plainFor_of_name pn_com_example_kwota_kwota_server_ErrorReasonOfStatusPinLaw) hisR ?_
  intro p e s m args below meth c s₁ Bd hml0 hP hK
  obtain ⟨rfl, hZ, hh⟩ := hP
  have hx := Bd.exec
  have hby := Bd.bytes
  have hml : c.maxLocals = 3 := hml0
  have hown : s.vm.findClass "com/example/kwota/kwota/server/ErrorReasonOfStatusPinLaw" = some m.cls := findClass_of_methodNamed Bd.named
  have hnm := (name_of_methodNamed Bd.named Bd.method).1
  have X0 : Stand p l e ({ frames := 1, cells := 0, slots := 0, locals := 16 } : Room) s m #[(.int (404 : Int32))] below meth c s₁ [] 0 0 := Stand.of_body Bd
  have e0 : s₁.heap = h0 := by rw [← hh, Bd.state]; rfl
  have N0 := Fr.nil n0
  refine Classical.byContradiction fun hNG => ?_
  have K0 := Keep.refl h0 []
  have k0 : ∀ t, own_At p e below m s₁ 0 #[.val (.int (404 : Int32)), .unset, .unset] [] t → own_En p e below m s₁ #[(.int (404 : Int32))] 3 t := fun t k => castTop (ef_f3 m ((404 : Int32)) ) k
  obtain ⟨S_PATH_NOT_FOUND, E_PATH_NOT_FOUND, S_METHOD_NOT_ALLOWED, E_METHOD_NOT_ALLOWED, S_UNSUPPORTED_MEDIA_TYPE, E_UNSUPPORTED_MEDIA_TYPE, S_EXPECTATION_FAILED, E_EXPECTATION_FAILED, S_NOT_IMPLEMENTED, E_NOT_IMPLEMENTED, S_HTTP_VERSION_NOT_SUPPORTED, E_HTTP_VERSION_NOT_SUPPORTED, S_MALFORMED_REQUEST, E_MALFORMED_REQUEST, S_INTERNAL_ERROR, E_INTERNAL_ERROR, F_EXPECTATION_FAILED_ordinal, F_PATH_NOT_FOUND_ordinal, F_METHOD_NOT_ALLOWED_ordinal, F_UNSUPPORTED_MEDIA_TYPE_ordinal, F_MALFORMED_REQUEST_ordinal, F_NOT_IMPLEMENTED_ordinal, F_HTTP_VERSION_NOT_SUPPORTED_ordinal, F_INTERNAL_ERROR_ordinal⟩ := (id hE : EV Z a_PATH_NOT_FOUND a_METHOD_NOT_ALLOWED a_UNSUPPORTED_MEDIA_TYPE a_EXPECTATION_FAILED a_NOT_IMPLEMENTED a_HTTP_VERSION_NOT_SUPPORTED a_MALFORMED_REQUEST a_INTERNAL_ERROR)
  obtain ⟨_, _, ⟨T1, L1, k1, n1⟩, -, X1, ⟨Lc1, hQ1, l1, y1, z1⟩, st1⟩ := Jvm.LawKit.callS X0 hx (y := own_m0) hown (mvT hZ (own_w hw 27 rfl)) (mvT hZ (own_w hw 28 rfl)) (mvT hZ (own_w hw 3 rfl)) (mvT hZ (own_w hw 29 rfl)) (by decide) (backOf (W := 0) (rm_f4 l Z a0 hw []  _ _ _ _ _ _ _ _ h0 n0 O0 hE) hZ (own_w hw 29 rfl) (own_w hw 3 rfl) (by decide) (by decide)) (g := (mkF m 1 #[.val (.int (404 : Int32)), .unset, .unset] [(.int (404 : Int32))])) rfl (by rw [hml]; rfl) (argsL := [(.int (404 : Int32))]) (rest := []) (lenOf pd__I_Lcom_example_kwota_kwota_server_ErrorReason_ rfl) rfl (by show 2 * 0 + _ ≤ _; exact Nat.le_of_eq rfl) (hb hby d_method_3_code_1) (fun _ _ => ⟨rfl, e0, (by decide : 0 + 0 ≤ _), (by decide : 0 + 0 ≤ _)⟩)
  dsimp only [Pt.U, Pt.locs, Pt.cells, Pt.slots] at X1 l1 y1 z1 st1 hQ1
  subst l1 y1 z1
  obtain ⟨rfl, N1q, hp1⟩ := hQ1
  have N1 := Fr.app N0 N1q
  obtain ⟨_, _, ⟨T2, L2, k2, n2⟩, -, X2, ⟨Lc2, hQ2, l2, y2, z2⟩, st2⟩ := Jvm.LawKit.callS X1 hx (y := own_m1) hown (mvT hZ (own_w hw 20 rfl)) (mvT hZ (own_w hw 21 rfl)) (mvT hZ (own_w hw 22 rfl)) (mvT hZ (own_w hw 23 rfl)) (by decide) (backOf (W := 0) (rm_f5 l Z a0 hw []  _ _ _ _ _ _ _ _ h0 n0 O0 hE) hZ (own_w hw 23 rfl) (own_w hw 22 rfl) (by decide) (by decide)) (g := (mkF m 6 #[.val (.int (404 : Int32)), .val (.ref a_PATH_NOT_FOUND), .unset] [(.ref a_PATH_NOT_FOUND)])) rfl (by rw [hml]; rfl) (argsL := [(.ref a_PATH_NOT_FOUND)]) (rest := []) (lenOf pd__Lcom_example_kwota_kwota_server_ErrorReason__I rfl) rfl (by show 2 * 0 + _ ≤ _; exact Nat.le_of_eq rfl) (hb hby d_method_3_code_6) (fun _ _ => ⟨rfl, hp1, (by decide : 0 + 0 ≤ _), (by decide : 0 + 0 ≤ _)⟩)
  dsimp only [Pt.U, Pt.locs, Pt.cells, Pt.slots] at X2 l2 y2 z2 st2 hQ2
  subst l2 y2 z2
  obtain ⟨rfl, N2q, hp2⟩ := hQ2
  have N2 := Fr.app N1 N2q
  have k3 : ∀ t, own_At p e below m T2 22 #[.val (.int (404 : Int32)), .val (.ref a_PATH_NOT_FOUND), .val (.int (404 : Int32))] [(.int (1 : Int32))] t → own_En p e below m s₁ #[(.int (404 : Int32))] 3 t := by
    intro t k
    refine k0 t ?_
    refine XS.iloadN X0.here hx rfl (hb hby d_method_3_code_0) rfl ?_
    show own_At p e below m s₁ 1 #[.val (.int (404 : Int32)), .unset, .unset] [(.int (404 : Int32))] t
    refine st1 _ ?_
    show own_At p e below m T1 4 #[.val (.int (404 : Int32)), .unset, .unset] [(.ref a_PATH_NOT_FOUND)] t
    refine XS.astoreN X1.here hx rfl (hb hby d_method_3_code_4) rfl rfl (l' := #[.val (.int (404 : Int32)), .val (.ref a_PATH_NOT_FOUND), .unset]) rfl ?_
    show own_At p e below m T1 5 #[.val (.int (404 : Int32)), .val (.ref a_PATH_NOT_FOUND), .unset] [] t
    refine XS.aloadN X1.here hx rfl (hb hby d_method_3_code_5) rfl rfl ?_
    show own_At p e below m T1 6 #[.val (.int (404 : Int32)), .val (.ref a_PATH_NOT_FOUND), .unset] [(.ref a_PATH_NOT_FOUND)] t
    refine st2 _ ?_
    show own_At p e below m T2 9 #[.val (.int (404 : Int32)), .val (.ref a_PATH_NOT_FOUND), .unset] [(.int (404 : Int32))] t
    refine XS.istoreN X2.here hx rfl (hb hby d_method_3_code_9) rfl (l' := #[.val (.int (404 : Int32)), .val (.ref a_PATH_NOT_FOUND), .val (.int (404 : Int32))]) rfl ?_
    show own_At p e below m T2 10 #[.val (.int (404 : Int32)), .val (.ref a_PATH_NOT_FOUND), .val (.int (404 : Int32))] [] t
    refine XS.iloadN X2.here hx rfl (hb hby d_method_3_code_10) rfl ?_
    show own_At p e below m T2 11 #[.val (.int (404 : Int32)), .val (.ref a_PATH_NOT_FOUND), .val (.int (404 : Int32))] [(.int (404 : Int32))] t
    refine XS.ifYes X2.here hx rfl (pc0 := 11) (pc' := 16) rfl (hb hby d_method_3_code_11) rfl ((if0 _ _).trans (tlt (by decide : (0 : Int32) < (404 : Int32))).2.2.1) (by decide) (by decide) ?_
    show own_At p e below m T2 16 #[.val (.int (404 : Int32)), .val (.ref a_PATH_NOT_FOUND), .val (.int (404 : Int32))] [] t
    refine XS.iloadN X2.here hx rfl (hb hby d_method_3_code_16) rfl ?_
    show own_At p e below m T2 17 #[.val (.int (404 : Int32)), .val (.ref a_PATH_NOT_FOUND), .val (.int (404 : Int32))] [(.int (404 : Int32))] t
    refine XS.iloadN X2.here hx rfl (hb hby d_method_3_code_17) rfl ?_
    show own_At p e below m T2 18 #[.val (.int (404 : Int32)), .val (.ref a_PATH_NOT_FOUND), .val (.int (404 : Int32))] [(.int (404 : Int32)), (.int (404 : Int32))] t
    refine XS.icmpNo X2.here hx rfl (hb hby d_method_3_code_18) rfl (teq (by decide : (404 : Int32) = (404 : Int32))).2 ?_
    show own_At p e below m T2 21 #[.val (.int (404 : Int32)), .val (.ref a_PATH_NOT_FOUND), .val (.int (404 : Int32))] [] t
    refine XS.iconst X2.here hx rfl (hb hby d_method_3_code_21) ?_
    show own_At p e below m T2 22 #[.val (.int (404 : Int32)), .val (.ref a_PATH_NOT_FOUND), .val (.int (404 : Int32))] [(.int (1 : Int32))] t
    exact k
  obtain ⟨fs, hr, hrun, hended, hW, hsame⟩ := X2.leave (v := some (.int (1 : Int32))) (fun h => by rw [Bd.returns] at h; cases h)
  refine hNG ⟨_, _, k3 _ ?_, hrun, hended, _, _, rfl, ?_, ⟨_, rfl⟩, hW, hsame.mono (by decide) (by decide)⟩
  · exact retN X2 hx (t := .boolean) Bd.returns (by simp) (hb hby d_method_3_code_22) hr
  · show Q_f3 Z a_PATH_NOT_FOUND a_METHOD_NOT_ALLOWED a_UNSUPPORTED_MEDIA_TYPE a_EXPECTATION_FAILED a_NOT_IMPLEMENTED a_HTTP_VERSION_NOT_SUPPORTED a_MALFORMED_REQUEST a_INTERNAL_ERROR h0 n0 _ T2.heap _
    rw [hp2]
    exact ⟨rfl, N2, rfl⟩
theorem ef_f6 (m : MethodId) (x0 : Int32)  : entryFrame m #[(.int x0)] 3 = mkF m 0 #[.val (.int x0), .unset, .unset] [] := by first | (simp [entryFrame, mkF, argsToLocals, Value.category]; done) | rfl
theorem ef_f7 (m : MethodId) (x0 : Int32)  : entryFrame m #[(.int x0)] 1 = mkF m 0 #[.val (.int x0)] [] := by first | (simp [entryFrame, mkF, argsToLocals, Value.category]; done) | rfl
theorem d_prog_59_method_4_code_64 : decode prog_59_method_4_code 64 = .ok (.getstatic 61, 3) := by decide +kernel
theorem d_prog_59_method_4_code_67 : decode prog_59_method_4_code 67 = .ok (.areturn, 1) := by decide +kernel
def Q_f7 (Z : State) (a_PATH_NOT_FOUND : Addr) (a_METHOD_NOT_ALLOWED : Addr) (a_UNSUPPORTED_MEDIA_TYPE : Addr) (a_EXPECTATION_FAILED : Addr) (a_NOT_IMPLEMENTED : Addr) (a_HTTP_VERSION_NOT_SUPPORTED : Addr) (a_MALFORMED_REQUEST : Addr) (a_INTERNAL_ERROR : Addr) (h0 : Heap) (n0 : Nat) (v : Option Value) (h : Heap) (L : List Loc) : Prop := v = some (.ref a_METHOD_NOT_ALLOWED) ∧ Fr n0 L ∧ h = h0
set_option maxRecDepth 65536 in
set_option maxHeartbeats 40000000 in
theorem rm_f7 (l : Launch) (Z : State) (a0 : Array Value) (hw : ∀ d ∈ tables_1, d.before a0 Z = true) (ws : List Jvm.Cond) (a_PATH_NOT_FOUND : Addr) (a_METHOD_NOT_ALLOWED : Addr) (a_UNSUPPORTED_MEDIA_TYPE : Addr) (a_EXPECTATION_FAILED : Addr) (a_NOT_IMPLEMENTED : Addr) (a_HTTP_VERSION_NOT_SUPPORTED : Addr) (a_MALFORMED_REQUEST : Addr) (a_INTERNAL_ERROR : Addr) (h0 : Heap) (n0 : Nat) (O0 : Old Z n0 h0) (hE : EV Z a_PATH_NOT_FOUND a_METHOD_NOT_ALLOWED a_UNSUPPORTED_MEDIA_TYPE a_EXPECTATION_FAILED a_NOT_IMPLEMENTED a_HTTP_VERSION_NOT_SUPPORTED a_MALFORMED_REQUEST a_INTERNAL_ERROR) :
    MetFree l own_m0 (head1 (Jvm.Cond.code own_m0 prog_59_method_4_code 1 (some (.object "com/example/kwota/kwota/server/ErrorReason")) :: ws) ({ frames := 0, cells := 0, slots := 0, locals := 0 } : Room)) (fun a U => a = #[(.int (405 : Int32))] ∧ Z.Warmed39 U.vm ∧ U.heap = h0) (fun _ _ _ _ _ => True) (fun _ U o U' => ∃ v L, o = .returned v ∧ Q_f7 Z a_PATH_NOT_FOUND a_METHOD_NOT_ALLOWED a_UNSUPPORTED_MEDIA_TYPE a_EXPECTATION_FAILED a_NOT_IMPLEMENTED a_HTTP_VERSION_NOT_SUPPORTED a_MALFORMED_REQUEST a_INTERNAL_ERROR h0 n0 v U'.heap L ∧ FrameEnd U o U' L ({ frames := 0, cells := 0, slots := 0, locals := 0 } : Room).cells ({ frames := 0, cells := 0, slots := 0, locals := 0 } : Room).slots) := by
  refine MetFree.of_bodySF (plainFor_of_name pn_com_example_kwota_kwota_server_ErrorReason) hisR ?_
  intro p e s m args below meth c s₁ Bd hml0 hP hK
  obtain ⟨rfl, hZ, hh⟩ := hP
  have hx := Bd.exec
  have hby := Bd.bytes
  have hml : c.maxLocals = 1 := hml0
  have hown : s.vm.findClass "com/example/kwota/kwota/server/ErrorReason" = some m.cls := findClass_of_methodNamed Bd.named
  have hnm := (name_of_methodNamed Bd.named Bd.method).1
  have X0 : Stand p l e ({ frames := 0, cells := 0, slots := 0, locals := 0 } : Room) s m #[(.int (405 : Int32))] below meth c s₁ [] 0 0 := Stand.of_body Bd
  have e0 : s₁.heap = h0 := by rw [← hh, Bd.state]; rfl
  have N0 := Fr.nil n0
  refine Classical.byContradiction fun hNG => ?_
  have K0 := Keep.refl h0 []
  have k0 : ∀ t, own_At p e below m s₁ 0 #[.val (.int (405 : Int32))] [] t → own_En p e below m s₁ #[(.int (405 : Int32))] 1 t := fun t k => castTop (ef_f7 m ((405 : Int32)) ) k
  obtain ⟨S_PATH_NOT_FOUND, E_PATH_NOT_FOUND, S_METHOD_NOT_ALLOWED, E_METHOD_NOT_ALLOWED, S_UNSUPPORTED_MEDIA_TYPE, E_UNSUPPORTED_MEDIA_TYPE, S_EXPECTATION_FAILED, E_EXPECTATION_FAILED, S_NOT_IMPLEMENTED, E_NOT_IMPLEMENTED, S_HTTP_VERSION_NOT_SUPPORTED, E_HTTP_VERSION_NOT_SUPPORTED, S_MALFORMED_REQUEST, E_MALFORMED_REQUEST, S_INTERNAL_ERROR, E_INTERNAL_ERROR, F_EXPECTATION_FAILED_ordinal, F_PATH_NOT_FOUND_ordinal, F_METHOD_NOT_ALLOWED_ordinal, F_UNSUPPORTED_MEDIA_TYPE_ordinal, F_MALFORMED_REQUEST_ordinal, F_NOT_IMPLEMENTED_ordinal, F_HTTP_VERSION_NOT_SUPPORTED_ordinal, F_INTERNAL_ERROR_ordinal⟩ := (id hE : EV Z a_PATH_NOT_FOUND a_METHOD_NOT_ALLOWED a_UNSUPPORTED_MEDIA_TYPE a_EXPECTATION_FAILED a_NOT_IMPLEMENTED a_HTTP_VERSION_NOT_SUPPORTED a_MALFORMED_REQUEST a_INTERNAL_ERROR)
  obtain ⟨T1, X1, e1, st1⟩ := getS2 X0 hx hZ hown (host := "") (Or.inl (own_w hw 32 rfl)) Via.refl e0 (S_METHOD_NOT_ALLOWED.ext O0.2) (g := (mkF m 64 #[.val (.int (405 : Int32))] [])) rfl (hb hby d_prog_59_method_4_code_64)
  have k2 : ∀ t, own_At p e below m T1 67 #[.val (.int (405 : Int32))] [(.ref a_METHOD_NOT_ALLOWED)] t → own_En p e below m s₁ #[(.int (405 : Int32))] 1 t := by
    intro t k
    refine k0 t ?_
    refine XS.iloadN X0.here hx rfl (hb hby d_prog_59_method_4_code_0) rfl ?_
    show own_At p e below m s₁ 1 #[.val (.int (405 : Int32))] [(.int (405 : Int32))] t
    refine own_lsw X0.here hx rfl (pc0 := 1) (pc' := 64) rfl (hb hby d_prog_59_method_4_code_1) rfl (by decide) (o := 63) (by decide) (by decide) (by decide) ?_
    show own_At p e below m s₁ 64 #[.val (.int (405 : Int32))] [] t
    refine st1 _ ?_
    show own_At p e below m T1 67 #[.val (.int (405 : Int32))] [(.ref a_METHOD_NOT_ALLOWED)] t
    exact k
  obtain ⟨fs, hr, hrun, hended, hW, hsame⟩ := X1.leave (v := some (.ref a_METHOD_NOT_ALLOWED)) (fun h => by rw [Bd.returns] at h; cases h)
  refine hNG ⟨_, _, k2 _ ?_, hrun, hended, _, _, rfl, ?_, ⟨_, rfl⟩, hW, hsame.mono (by decide) (by decide)⟩
  · exact retOut X1 hx (t := (.object "com/example/kwota/kwota/server/ErrorReason")) Bd.returns rfl (Or.inr (Or.inr (Or.inr (Or.inr ⟨rfl, rfl, rfl⟩)))) (hb hby d_prog_59_method_4_code_67) hr
  · show Q_f7 Z a_PATH_NOT_FOUND a_METHOD_NOT_ALLOWED a_UNSUPPORTED_MEDIA_TYPE a_EXPECTATION_FAILED a_NOT_IMPLEMENTED a_HTTP_VERSION_NOT_SUPPORTED a_MALFORMED_REQUEST a_INTERNAL_ERROR h0 n0 _ T1.heap _
    rw [e1]
    exact ⟨rfl, N0, rfl⟩
theorem ef_f8 (m : MethodId) (x0 : Addr)  : entryFrame m #[(.ref x0)] 1 = mkF m 0 #[.val (.ref x0)] [] := by first | (simp [entryFrame, mkF, argsToLocals, Value.category]; done) | rfl
theorem d_method_2_code_18 : decode method_2_code 18 = .ok (.sipush 405, 3) := by decide +kernel
theorem d_method_2_code_21 : decode method_2_code 21 = .ok (.ireturn, 1) := by decide +kernel
def Q_f8 (Z : State) (a_PATH_NOT_FOUND : Addr) (a_METHOD_NOT_ALLOWED : Addr) (a_UNSUPPORTED_MEDIA_TYPE : Addr) (a_EXPECTATION_FAILED : Addr) (a_NOT_IMPLEMENTED : Addr) (a_HTTP_VERSION_NOT_SUPPORTED : Addr) (a_MALFORMED_REQUEST : Addr) (a_INTERNAL_ERROR : Addr) (h0 : Heap) (n0 : Nat) (v : Option Value) (h : Heap) (L : List Loc) : Prop := v = some (.int (405 : Int32)) ∧ Fr n0 L ∧ h = h0
set_option maxRecDepth 65536 in
set_option maxHeartbeats 40000000 in
theorem rm_f8 (l : Launch) (Z : State) (a0 : Array Value) (hw : ∀ d ∈ tables_1, d.before a0 Z = true) (ws : List Jvm.Cond) (a_PATH_NOT_FOUND : Addr) (a_METHOD_NOT_ALLOWED : Addr) (a_UNSUPPORTED_MEDIA_TYPE : Addr) (a_EXPECTATION_FAILED : Addr) (a_NOT_IMPLEMENTED : Addr) (a_HTTP_VERSION_NOT_SUPPORTED : Addr) (a_MALFORMED_REQUEST : Addr) (a_INTERNAL_ERROR : Addr) (h0 : Heap) (n0 : Nat) (O0 : Old Z n0 h0) (hE : EV Z a_PATH_NOT_FOUND a_METHOD_NOT_ALLOWED a_UNSUPPORTED_MEDIA_TYPE a_EXPECTATION_FAILED a_NOT_IMPLEMENTED a_HTTP_VERSION_NOT_SUPPORTED a_MALFORMED_REQUEST a_INTERNAL_ERROR) :
    MetFree l own_m1 (head1 (Jvm.Cond.code own_m1 method_2_code 1 (some .int) :: ws) ({ frames := 0, cells := 0, slots := 0, locals := 0 } : Room)) (fun a U => a = #[(.ref a_METHOD_NOT_ALLOWED)] ∧ Z.Warmed39 U.vm ∧ U.heap = h0) (fun _ _ _ _ _ => True) (fun _ U o U' => ∃ v L, o = .returned v ∧ Q_f8 Z a_PATH_NOT_FOUND a_METHOD_NOT_ALLOWED a_UNSUPPORTED_MEDIA_TYPE a_EXPECTATION_FAILED a_NOT_IMPLEMENTED a_HTTP_VERSION_NOT_SUPPORTED a_MALFORMED_REQUEST a_INTERNAL_ERROR h0 n0 v U'.heap L ∧ FrameEnd U o U' L ({ frames := 0, cells := 0, slots := 0, locals := 0 } : Room).cells ({ frames := 0, cells := 0, slots := 0, locals := 0 } : Room).slots) := by
  refine MetFree.of_bodySF (plainFor_of_name pn_com_example_kwota_kwota_server_ErrorReasonOfStatusPinLaw) hisR ?_
  intro p e s m args below meth c s₁ Bd hml0 hP hK
  obtain ⟨rfl, hZ, hh⟩ := hP
  have hx := Bd.exec
  have hby := Bd.bytes
  have hml : c.maxLocals = 1 := hml0
  have hown : s.vm.findClass "com/example/kwota/kwota/server/ErrorReasonOfStatusPinLaw" = some m.cls := findClass_of_methodNamed Bd.named
  have hnm := (name_of_methodNamed Bd.named Bd.method).1
  have X0 : Stand p l e ({ frames := 0, cells := 0, slots := 0, locals := 0 } : Room) s m #[(.ref a_METHOD_NOT_ALLOWED)] below meth c s₁ [] 0 0 := Stand.of_body Bd
  have e0 : s₁.heap = h0 := by rw [← hh, Bd.state]; rfl
  have N0 := Fr.nil n0
  refine Classical.byContradiction fun hNG => ?_
  have K0 := Keep.refl h0 []
  have k0 : ∀ t, own_At p e below m s₁ 0 #[.val (.ref a_METHOD_NOT_ALLOWED)] [] t → own_En p e below m s₁ #[(.ref a_METHOD_NOT_ALLOWED)] 1 t := fun t k => castTop (ef_f8 m a_METHOD_NOT_ALLOWED ) k
  obtain ⟨S_PATH_NOT_FOUND, E_PATH_NOT_FOUND, S_METHOD_NOT_ALLOWED, E_METHOD_NOT_ALLOWED, S_UNSUPPORTED_MEDIA_TYPE, E_UNSUPPORTED_MEDIA_TYPE, S_EXPECTATION_FAILED, E_EXPECTATION_FAILED, S_NOT_IMPLEMENTED, E_NOT_IMPLEMENTED, S_HTTP_VERSION_NOT_SUPPORTED, E_HTTP_VERSION_NOT_SUPPORTED, S_MALFORMED_REQUEST, E_MALFORMED_REQUEST, S_INTERNAL_ERROR, E_INTERNAL_ERROR, F_EXPECTATION_FAILED_ordinal, F_PATH_NOT_FOUND_ordinal, F_METHOD_NOT_ALLOWED_ordinal, F_UNSUPPORTED_MEDIA_TYPE_ordinal, F_MALFORMED_REQUEST_ordinal, F_NOT_IMPLEMENTED_ordinal, F_HTTP_VERSION_NOT_SUPPORTED_ordinal, F_INTERNAL_ERROR_ordinal⟩ := (id hE : EV Z a_PATH_NOT_FOUND a_METHOD_NOT_ALLOWED a_UNSUPPORTED_MEDIA_TYPE a_EXPECTATION_FAILED a_NOT_IMPLEMENTED a_HTTP_VERSION_NOT_SUPPORTED a_MALFORMED_REQUEST a_INTERNAL_ERROR)
  obtain ⟨T1, X1, e1, st1⟩ := getS2 X0 hx hZ hown (host := "") (Or.inl (own_w hw 2 rfl)) Via.refl e0 (S_PATH_NOT_FOUND.ext O0.2) (g := (mkF m 1 #[.val (.ref a_METHOD_NOT_ALLOWED)] [(.ref a_METHOD_NOT_ALLOWED)])) rfl (hb hby d_method_2_code_1)
  obtain ⟨T2, X2, e2, st2⟩ := getS2 X1 hx hZ hown (host := "") (Or.inl (own_w hw 6 rfl)) Via.refl e1 (S_METHOD_NOT_ALLOWED.ext O0.2) (g := (mkF m 12 #[.val (.ref a_METHOD_NOT_ALLOWED)] [(.ref a_METHOD_NOT_ALLOWED)])) rfl (hb hby d_method_2_code_12)
  have k3 : ∀ t, own_At p e below m T2 21 #[.val (.ref a_METHOD_NOT_ALLOWED)] [(.int (405 : Int32))] t → own_En p e below m s₁ #[(.ref a_METHOD_NOT_ALLOWED)] 1 t := by
    intro t k
    refine k0 t ?_
    refine XS.aloadN X0.here hx rfl (hb hby d_method_2_code_0) rfl rfl ?_
    show own_At p e below m s₁ 1 #[.val (.ref a_METHOD_NOT_ALLOWED)] [(.ref a_METHOD_NOT_ALLOWED)] t
    refine st1 _ ?_
    show own_At p e below m T1 4 #[.val (.ref a_METHOD_NOT_ALLOWED)] [(.ref a_PATH_NOT_FOUND), (.ref a_METHOD_NOT_ALLOWED)] t
    refine Jvm.RoadKit.acmp (g := (mkF m 4 #[.val (.ref a_METHOD_NOT_ALLOWED)] [(.ref a_PATH_NOT_FOUND), (.ref a_METHOD_NOT_ALLOWED)])) X1 hx rfl rfl rfl (pc0 := 4) (pc' := 11) (same := false) rfl (hb hby d_method_2_code_4) rfl (decide_eq_false fun q => (F_METHOD_NOT_ALLOWED_ordinal.ne F_PATH_NOT_FOUND_ordinal (fun q => absurd (Value.int.inj q) (by decide))) (Value.ref.inj q)) (by decide) (by decide) ?_
    show own_At p e below m T1 11 #[.val (.ref a_METHOD_NOT_ALLOWED)] [] t
    refine XS.aloadN X1.here hx rfl (hb hby d_method_2_code_11) rfl rfl ?_
    show own_At p e below m T1 12 #[.val (.ref a_METHOD_NOT_ALLOWED)] [(.ref a_METHOD_NOT_ALLOWED)] t
    refine st2 _ ?_
    show own_At p e below m T2 15 #[.val (.ref a_METHOD_NOT_ALLOWED)] [(.ref a_METHOD_NOT_ALLOWED), (.ref a_METHOD_NOT_ALLOWED)] t
    refine Jvm.RoadKit.acmp (g := (mkF m 15 #[.val (.ref a_METHOD_NOT_ALLOWED)] [(.ref a_METHOD_NOT_ALLOWED), (.ref a_METHOD_NOT_ALLOWED)])) X2 hx rfl rfl rfl (pc0 := 15) (pc' := 18) (same := true) rfl (hb hby d_method_2_code_15) rfl (decide_eq_true rfl) (by decide) (by decide) ?_
    show own_At p e below m T2 18 #[.val (.ref a_METHOD_NOT_ALLOWED)] [] t
    refine XS.sipush X2.here hx rfl (hb hby d_method_2_code_18) ?_
    show own_At p e below m T2 21 #[.val (.ref a_METHOD_NOT_ALLOWED)] [(.int (405 : Int32))] t
    exact k
  obtain ⟨fs, hr, hrun, hended, hW, hsame⟩ := X2.leave (v := some (.int (405 : Int32))) (fun h => by rw [Bd.returns] at h; cases h)
  refine hNG ⟨_, _, k3 _ ?_, hrun, hended, _, _, rfl, ?_, ⟨_, rfl⟩, hW, hsame.mono (by decide) (by decide)⟩
  · exact retOut X2 hx (t := .int) Bd.returns rfl (Or.inl ⟨rfl, Or.inl rfl, _, rfl⟩) (hb hby d_method_2_code_21) hr
  · show Q_f8 Z a_PATH_NOT_FOUND a_METHOD_NOT_ALLOWED a_UNSUPPORTED_MEDIA_TYPE a_EXPECTATION_FAILED a_NOT_IMPLEMENTED a_HTTP_VERSION_NOT_SUPPORTED a_MALFORMED_REQUEST a_INTERNAL_ERROR h0 n0 _ T2.heap _
    rw [e2]
    exact ⟨rfl, N0, rfl⟩
def Q_f6 (Z : State) (a_PATH_NOT_FOUND : Addr) (a_METHOD_NOT_ALLOWED : Addr) (a_UNSUPPORTED_MEDIA_TYPE : Addr) (a_EXPECTATION_FAILED : Addr) (a_NOT_IMPLEMENTED : Addr) (a_HTTP_VERSION_NOT_SUPPORTED : Addr) (a_MALFORMED_REQUEST : Addr) (a_INTERNAL_ERROR : Addr) (h0 : Heap) (n0 : Nat) (v : Option Value) (h : Heap) (L : List Loc) : Prop := v = some (.int (1 : Int32)) ∧ Fr n0 L ∧ h = h0
set_option maxRecDepth 65536 in
set_option maxHeartbeats 40000000 in
theorem rm_f6 (l : Launch) (Z : State) (a0 : Array Value) (hw : ∀ d ∈ tables_1, d.before a0 Z = true) (ws : List Jvm.Cond) (a_PATH_NOT_FOUND : Addr) (a_METHOD_NOT_ALLOWED : Addr) (a_UNSUPPORTED_MEDIA_TYPE : Addr) (a_EXPECTATION_FAILED : Addr) (a_NOT_IMPLEMENTED : Addr) (a_HTTP_VERSION_NOT_SUPPORTED : Addr) (a_MALFORMED_REQUEST : Addr) (a_INTERNAL_ERROR : Addr) (h0 : Heap) (n0 : Nat) (O0 : Old Z n0 h0) (hE : EV Z a_PATH_NOT_FOUND a_METHOD_NOT_ALLOWED a_UNSUPPORTED_MEDIA_TYPE a_EXPECTATION_FAILED a_NOT_IMPLEMENTED a_HTTP_VERSION_NOT_SUPPORTED a_MALFORMED_REQUEST a_INTERNAL_ERROR) :
    MetFree l own_m2 (head1 (Jvm.Cond.code own_m2 method_3_code 3 (some .boolean) :: ws) ({ frames := 1, cells := 0, slots := 0, locals := 16 } : Room)) (fun a U => a = #[(.int (405 : Int32))] ∧ Z.Warmed39 U.vm ∧ U.heap = h0) (fun _ _ _ _ _ => True) (fun _ U o U' => ∃ v L, o = .returned v ∧ Q_f6 Z a_PATH_NOT_FOUND a_METHOD_NOT_ALLOWED a_UNSUPPORTED_MEDIA_TYPE a_EXPECTATION_FAILED a_NOT_IMPLEMENTED a_HTTP_VERSION_NOT_SUPPORTED a_MALFORMED_REQUEST a_INTERNAL_ERROR h0 n0 v U'.heap L ∧ FrameEnd U o U' L ({ frames := 1, cells := 0, slots := 0, locals := 16 } : Room).cells ({ frames := 1, cells := 0, slots := 0, locals := 16 } : Room).slots) := by
  refine MetFree.of_bodySF (plainFor_of_name pn_com_example_kwota_kwota_server_ErrorReasonOfStatusPinLaw) hisR ?_
  intro p e s m args below meth c s₁ Bd hml0 hP hK
  obtain ⟨rfl, hZ, hh⟩ := hP
  have hx := Bd.exec
  have hby := Bd.bytes
  have hml : c.maxLocals = 3 := hml0
  have hown : s.vm.findClass "com/example/kwota/kwota/server/ErrorReasonOfStatusPinLaw" = some m.cls := findClass_of_methodNamed Bd.named
  have hnm := (name_of_methodNamed Bd.named Bd.method).1
  have X0 : Stand p l e ({ frames := 1, cells := 0, slots := 0, locals := 16 } : Room) s m #[(.int (405 : Int32))] below meth c s₁ [] 0 0 := Stand.of_body Bd
  have e0 : s₁.heap = h0 := by rw [← hh, Bd.state]; rfl
  have N0 := Fr.nil n0
  refine Classical.byContradiction fun hNG => ?_
  have K0 := Keep.refl h0 []
  have k0 : ∀ t, own_At p e below m s₁ 0 #[.val (.int (405 : Int32)), .unset, .unset] [] t → own_En p e below m s₁ #[(.int (405 : Int32))] 3 t := fun t k => castTop (ef_f6 m ((405 : Int32)) ) k
  obtain ⟨S_PATH_NOT_FOUND, E_PATH_NOT_FOUND, S_METHOD_NOT_ALLOWED, E_METHOD_NOT_ALLOWED, S_UNSUPPORTED_MEDIA_TYPE, E_UNSUPPORTED_MEDIA_TYPE, S_EXPECTATION_FAILED, E_EXPECTATION_FAILED, S_NOT_IMPLEMENTED, E_NOT_IMPLEMENTED, S_HTTP_VERSION_NOT_SUPPORTED, E_HTTP_VERSION_NOT_SUPPORTED, S_MALFORMED_REQUEST, E_MALFORMED_REQUEST, S_INTERNAL_ERROR, E_INTERNAL_ERROR, F_EXPECTATION_FAILED_ordinal, F_PATH_NOT_FOUND_ordinal, F_METHOD_NOT_ALLOWED_ordinal, F_UNSUPPORTED_MEDIA_TYPE_ordinal, F_MALFORMED_REQUEST_ordinal, F_NOT_IMPLEMENTED_ordinal, F_HTTP_VERSION_NOT_SUPPORTED_ordinal, F_INTERNAL_ERROR_ordinal⟩ := (id hE : EV Z a_PATH_NOT_FOUND a_METHOD_NOT_ALLOWED a_UNSUPPORTED_MEDIA_TYPE a_EXPECTATION_FAILED a_NOT_IMPLEMENTED a_HTTP_VERSION_NOT_SUPPORTED a_MALFORMED_REQUEST a_INTERNAL_ERROR)
  obtain ⟨_, _, ⟨T1, L1, k1, n1⟩, -, X1, ⟨Lc1, hQ1, l1, y1, z1⟩, st1⟩ := Jvm.LawKit.callS X0 hx (y := own_m0) hown (mvT hZ (own_w hw 27 rfl)) (mvT hZ (own_w hw 28 rfl)) (mvT hZ (own_w hw 3 rfl)) (mvT hZ (own_w hw 29 rfl)) (by decide) (backOf (W := 0) (rm_f7 l Z a0 hw []  _ _ _ _ _ _ _ _ h0 n0 O0 hE) hZ (own_w hw 29 rfl) (own_w hw 3 rfl) (by decide) (by decide)) (g := (mkF m 1 #[.val (.int (405 : Int32)), .unset, .unset] [(.int (405 : Int32))])) rfl (by rw [hml]; rfl) (argsL := [(.int (405 : Int32))]) (rest := []) (lenOf pd__I_Lcom_example_kwota_kwota_server_ErrorReason_ rfl) rfl (by show 2 * 0 + _ ≤ _; exact Nat.le_of_eq rfl) (hb hby d_method_3_code_1) (fun _ _ => ⟨rfl, e0, (by decide : 0 + 0 ≤ _), (by decide : 0 + 0 ≤ _)⟩)
  dsimp only [Pt.U, Pt.locs, Pt.cells, Pt.slots] at X1 l1 y1 z1 st1 hQ1
  subst l1 y1 z1
  obtain ⟨rfl, N1q, hp1⟩ := hQ1
  have N1 := Fr.app N0 N1q
  obtain ⟨_, _, ⟨T2, L2, k2, n2⟩, -, X2, ⟨Lc2, hQ2, l2, y2, z2⟩, st2⟩ := Jvm.LawKit.callS X1 hx (y := own_m1) hown (mvT hZ (own_w hw 20 rfl)) (mvT hZ (own_w hw 21 rfl)) (mvT hZ (own_w hw 22 rfl)) (mvT hZ (own_w hw 23 rfl)) (by decide) (backOf (W := 0) (rm_f8 l Z a0 hw []  _ _ _ _ _ _ _ _ h0 n0 O0 hE) hZ (own_w hw 23 rfl) (own_w hw 22 rfl) (by decide) (by decide)) (g := (mkF m 6 #[.val (.int (405 : Int32)), .val (.ref a_METHOD_NOT_ALLOWED), .unset] [(.ref a_METHOD_NOT_ALLOWED)])) rfl (by rw [hml]; rfl) (argsL := [(.ref a_METHOD_NOT_ALLOWED)]) (rest := []) (lenOf pd__Lcom_example_kwota_kwota_server_ErrorReason__I rfl) rfl (by show 2 * 0 + _ ≤ _; exact Nat.le_of_eq rfl) (hb hby d_method_3_code_6) (fun _ _ => ⟨rfl, hp1, (by decide : 0 + 0 ≤ _), (by decide : 0 + 0 ≤ _)⟩)
  dsimp only [Pt.U, Pt.locs, Pt.cells, Pt.slots] at X2 l2 y2 z2 st2 hQ2
  subst l2 y2 z2
  obtain ⟨rfl, N2q, hp2⟩ := hQ2
  have N2 := Fr.app N1 N2q
  have k3 : ∀ t, own_At p e below m T2 22 #[.val (.int (405 : Int32)), .val (.ref a_METHOD_NOT_ALLOWED), .val (.int (405 : Int32))] [(.int (1 : Int32))] t → own_En p e below m s₁ #[(.int (405 : Int32))] 3 t := by
    intro t k
    refine k0 t ?_
    refine XS.iloadN X0.here hx rfl (hb hby d_method_3_code_0) rfl ?_
    show own_At p e below m s₁ 1 #[.val (.int (405 : Int32)), .unset, .unset] [(.int (405 : Int32))] t
    refine st1 _ ?_
    show own_At p e below m T1 4 #[.val (.int (405 : Int32)), .unset, .unset] [(.ref a_METHOD_NOT_ALLOWED)] t
    refine XS.astoreN X1.here hx rfl (hb hby d_method_3_code_4) rfl rfl (l' := #[.val (.int (405 : Int32)), .val (.ref a_METHOD_NOT_ALLOWED), .unset]) rfl ?_
    show own_At p e below m T1 5 #[.val (.int (405 : Int32)), .val (.ref a_METHOD_NOT_ALLOWED), .unset] [] t
    refine XS.aloadN X1.here hx rfl (hb hby d_method_3_code_5) rfl rfl ?_
    show own_At p e below m T1 6 #[.val (.int (405 : Int32)), .val (.ref a_METHOD_NOT_ALLOWED), .unset] [(.ref a_METHOD_NOT_ALLOWED)] t
    refine st2 _ ?_
    show own_At p e below m T2 9 #[.val (.int (405 : Int32)), .val (.ref a_METHOD_NOT_ALLOWED), .unset] [(.int (405 : Int32))] t
    refine XS.istoreN X2.here hx rfl (hb hby d_method_3_code_9) rfl (l' := #[.val (.int (405 : Int32)), .val (.ref a_METHOD_NOT_ALLOWED), .val (.int (405 : Int32))]) rfl ?_
    show own_At p e below m T2 10 #[.val (.int (405 : Int32)), .val (.ref a_METHOD_NOT_ALLOWED), .val (.int (405 : Int32))] [] t
    refine XS.iloadN X2.here hx rfl (hb hby d_method_3_code_10) rfl ?_
    show own_At p e below m T2 11 #[.val (.int (405 : Int32)), .val (.ref a_METHOD_NOT_ALLOWED), .val (.int (405 : Int32))] [(.int (405 : Int32))] t
    refine XS.ifYes X2.here hx rfl (pc0 := 11) (pc' := 16) rfl (hb hby d_method_3_code_11) rfl ((if0 _ _).trans (tlt (by decide : (0 : Int32) < (405 : Int32))).2.2.1) (by decide) (by decide) ?_
    show own_At p e below m T2 16 #[.val (.int (405 : Int32)), .val (.ref a_METHOD_NOT_ALLOWED), .val (.int (405 : Int32))] [] t
    refine XS.iloadN X2.here hx rfl (hb hby d_method_3_code_16) rfl ?_
    show own_At p e below m T2 17 #[.val (.int (405 : Int32)), .val (.ref a_METHOD_NOT_ALLOWED), .val (.int (405 : Int32))] [(.int (405 : Int32))] t
    refine XS.iloadN X2.here hx rfl (hb hby d_method_3_code_17) rfl ?_
    show own_At p e below m T2 18 #[.val (.int (405 : Int32)), .val (.ref a_METHOD_NOT_ALLOWED), .val (.int (405 : Int32))] [(.int (405 : Int32)), (.int (405 : Int32))] t
    refine XS.icmpNo X2.here hx rfl (hb hby d_method_3_code_18) rfl (teq (by decide : (405 : Int32) = (405 : Int32))).2 ?_
    show own_At p e below m T2 21 #[.val (.int (405 : Int32)), .val (.ref a_METHOD_NOT_ALLOWED), .val (.int (405 : Int32))] [] t
    refine XS.iconst X2.here hx rfl (hb hby d_method_3_code_21) ?_
    show own_At p e below m T2 22 #[.val (.int (405 : Int32)), .val (.ref a_METHOD_NOT_ALLOWED), .val (.int (405 : Int32))] [(.int (1 : Int32))] t
    exact k
  obtain ⟨fs, hr, hrun, hended, hW, hsame⟩ := X2.leave (v := some (.int (1 : Int32))) (fun h => by rw [Bd.returns] at h; cases h)
  refine hNG ⟨_, _, k3 _ ?_, hrun, hended, _, _, rfl, ?_, ⟨_, rfl⟩, hW, hsame.mono (by decide) (by decide)⟩
  · exact retN X2 hx (t := .boolean) Bd.returns (by simp) (hb hby d_method_3_code_22) hr
  · show Q_f6 Z a_PATH_NOT_FOUND a_METHOD_NOT_ALLOWED a_UNSUPPORTED_MEDIA_TYPE a_EXPECTATION_FAILED a_NOT_IMPLEMENTED a_HTTP_VERSION_NOT_SUPPORTED a_MALFORMED_REQUEST a_INTERNAL_ERROR h0 n0 _ T2.heap _
    rw [hp2]
    exact ⟨rfl, N2, rfl⟩
theorem ef_f9 (m : MethodId) (x0 : Int32)  : entryFrame m #[(.int x0)] 3 = mkF m 0 #[.val (.int x0), .unset, .unset] [] := by first | (simp [entryFrame, mkF, argsToLocals, Value.category]; done) | rfl
theorem ef_f10 (m : MethodId) (x0 : Int32)  : entryFrame m #[(.int x0)] 1 = mkF m 0 #[.val (.int x0)] [] := by first | (simp [entryFrame, mkF, argsToLocals, Value.category]; done) | rfl
theorem d_prog_59_method_4_code_68 : decode prog_59_method_4_code 68 = .ok (.getstatic 64, 3) := by decide +kernel
theorem d_prog_59_method_4_code_71 : decode prog_59_method_4_code 71 = .ok (.areturn, 1) := by decide +kernel
def Q_f10 (Z : State) (a_PATH_NOT_FOUND : Addr) (a_METHOD_NOT_ALLOWED : Addr) (a_UNSUPPORTED_MEDIA_TYPE : Addr) (a_EXPECTATION_FAILED : Addr) (a_NOT_IMPLEMENTED : Addr) (a_HTTP_VERSION_NOT_SUPPORTED : Addr) (a_MALFORMED_REQUEST : Addr) (a_INTERNAL_ERROR : Addr) (h0 : Heap) (n0 : Nat) (v : Option Value) (h : Heap) (L : List Loc) : Prop := v = some (.ref a_UNSUPPORTED_MEDIA_TYPE) ∧ Fr n0 L ∧ h = h0
set_option maxRecDepth 65536 in
set_option maxHeartbeats 40000000 in
theorem rm_f10 (l : Launch) (Z : State) (a0 : Array Value) (hw : ∀ d ∈ tables_1, d.before a0 Z = true) (ws : List Jvm.Cond) (a_PATH_NOT_FOUND : Addr) (a_METHOD_NOT_ALLOWED : Addr) (a_UNSUPPORTED_MEDIA_TYPE : Addr) (a_EXPECTATION_FAILED : Addr) (a_NOT_IMPLEMENTED : Addr) (a_HTTP_VERSION_NOT_SUPPORTED : Addr) (a_MALFORMED_REQUEST : Addr) (a_INTERNAL_ERROR : Addr) (h0 : Heap) (n0 : Nat) (O0 : Old Z n0 h0) (hE : EV Z a_PATH_NOT_FOUND a_METHOD_NOT_ALLOWED a_UNSUPPORTED_MEDIA_TYPE a_EXPECTATION_FAILED a_NOT_IMPLEMENTED a_HTTP_VERSION_NOT_SUPPORTED a_MALFORMED_REQUEST a_INTERNAL_ERROR) :
    MetFree l own_m0 (head1 (Jvm.Cond.code own_m0 prog_59_method_4_code 1 (some (.object "com/example/kwota/kwota/server/ErrorReason")) :: ws) ({ frames := 0, cells := 0, slots := 0, locals := 0 } : Room)) (fun a U => a = #[(.int (415 : Int32))] ∧ Z.Warmed39 U.vm ∧ U.heap = h0) (fun _ _ _ _ _ => True) (fun _ U o U' => ∃ v L, o = .returned v ∧ Q_f10 Z a_PATH_NOT_FOUND a_METHOD_NOT_ALLOWED a_UNSUPPORTED_MEDIA_TYPE a_EXPECTATION_FAILED a_NOT_IMPLEMENTED a_HTTP_VERSION_NOT_SUPPORTED a_MALFORMED_REQUEST a_INTERNAL_ERROR h0 n0 v U'.heap L ∧ FrameEnd U o U' L ({ frames := 0, cells := 0, slots := 0, locals := 0 } : Room).cells ({ frames := 0, cells := 0, slots := 0, locals := 0 } : Room).slots) := by
  refine MetFree.of_bodySF (plainFor_of_name pn_com_example_kwota_kwota_server_ErrorReason) hisR ?_
  intro p e s m args below meth c s₁ Bd hml0 hP hK
  obtain ⟨rfl, hZ, hh⟩ := hP
  have hx := Bd.exec
  have hby := Bd.bytes
  have hml : c.maxLocals = 1 := hml0
  have hown : s.vm.findClass "com/example/kwota/kwota/server/ErrorReason" = some m.cls := findClass_of_methodNamed Bd.named
  have hnm := (name_of_methodNamed Bd.named Bd.method).1
  have X0 : Stand p l e ({ frames := 0, cells := 0, slots := 0, locals := 0 } : Room) s m #[(.int (415 : Int32))] below meth c s₁ [] 0 0 := Stand.of_body Bd
  have e0 : s₁.heap = h0 := by rw [← hh, Bd.state]; rfl
  have N0 := Fr.nil n0
  refine Classical.byContradiction fun hNG => ?_
  have K0 := Keep.refl h0 []
  have k0 : ∀ t, own_At p e below m s₁ 0 #[.val (.int (415 : Int32))] [] t → own_En p e below m s₁ #[(.int (415 : Int32))] 1 t := fun t k => castTop (ef_f10 m ((415 : Int32)) ) k
  obtain ⟨S_PATH_NOT_FOUND, E_PATH_NOT_FOUND, S_METHOD_NOT_ALLOWED, E_METHOD_NOT_ALLOWED, S_UNSUPPORTED_MEDIA_TYPE, E_UNSUPPORTED_MEDIA_TYPE, S_EXPECTATION_FAILED, E_EXPECTATION_FAILED, S_NOT_IMPLEMENTED, E_NOT_IMPLEMENTED, S_HTTP_VERSION_NOT_SUPPORTED, E_HTTP_VERSION_NOT_SUPPORTED, S_MALFORMED_REQUEST, E_MALFORMED_REQUEST, S_INTERNAL_ERROR, E_INTERNAL_ERROR, F_EXPECTATION_FAILED_ordinal, F_PATH_NOT_FOUND_ordinal, F_METHOD_NOT_ALLOWED_ordinal, F_UNSUPPORTED_MEDIA_TYPE_ordinal, F_MALFORMED_REQUEST_ordinal, F_NOT_IMPLEMENTED_ordinal, F_HTTP_VERSION_NOT_SUPPORTED_ordinal, F_INTERNAL_ERROR_ordinal⟩ := (id hE : EV Z a_PATH_NOT_FOUND a_METHOD_NOT_ALLOWED a_UNSUPPORTED_MEDIA_TYPE a_EXPECTATION_FAILED a_NOT_IMPLEMENTED a_HTTP_VERSION_NOT_SUPPORTED a_MALFORMED_REQUEST a_INTERNAL_ERROR)
  obtain ⟨T1, X1, e1, st1⟩ := getS2 X0 hx hZ hown (host := "") (Or.inl (own_w hw 37 rfl)) Via.refl e0 (S_UNSUPPORTED_MEDIA_TYPE.ext O0.2) (g := (mkF m 68 #[.val (.int (415 : Int32))] [])) rfl (hb hby d_prog_59_method_4_code_68)
  have k2 : ∀ t, own_At p e below m T1 71 #[.val (.int (415 : Int32))] [(.ref a_UNSUPPORTED_MEDIA_TYPE)] t → own_En p e below m s₁ #[(.int (415 : Int32))] 1 t := by
    intro t k
    refine k0 t ?_
    refine XS.iloadN X0.here hx rfl (hb hby d_prog_59_method_4_code_0) rfl ?_
    show own_At p e below m s₁ 1 #[.val (.int (415 : Int32))] [(.int (415 : Int32))] t
    refine own_lsw X0.here hx rfl (pc0 := 1) (pc' := 68) rfl (hb hby d_prog_59_method_4_code_1) rfl (by decide) (o := 67) (by decide) (by decide) (by decide) ?_
    show own_At p e below m s₁ 68 #[.val (.int (415 : Int32))] [] t
    refine st1 _ ?_
    show own_At p e below m T1 71 #[.val (.int (415 : Int32))] [(.ref a_UNSUPPORTED_MEDIA_TYPE)] t
    exact k
  obtain ⟨fs, hr, hrun, hended, hW, hsame⟩ := X1.leave (v := some (.ref a_UNSUPPORTED_MEDIA_TYPE)) (fun h => by rw [Bd.returns] at h; cases h)
  refine hNG ⟨_, _, k2 _ ?_, hrun, hended, _, _, rfl, ?_, ⟨_, rfl⟩, hW, hsame.mono (by decide) (by decide)⟩
  · exact retOut X1 hx (t := (.object "com/example/kwota/kwota/server/ErrorReason")) Bd.returns rfl (Or.inr (Or.inr (Or.inr (Or.inr ⟨rfl, rfl, rfl⟩)))) (hb hby d_prog_59_method_4_code_71) hr
  · show Q_f10 Z a_PATH_NOT_FOUND a_METHOD_NOT_ALLOWED a_UNSUPPORTED_MEDIA_TYPE a_EXPECTATION_FAILED a_NOT_IMPLEMENTED a_HTTP_VERSION_NOT_SUPPORTED a_MALFORMED_REQUEST a_INTERNAL_ERROR h0 n0 _ T1.heap _
    rw [e1]
    exact ⟨rfl, N0, rfl⟩
theorem ef_f11 (m : MethodId) (x0 : Addr)  : entryFrame m #[(.ref x0)] 1 = mkF m 0 #[.val (.ref x0)] [] := by first | (simp [entryFrame, mkF, argsToLocals, Value.category]; done) | rfl
theorem d_method_2_code_29 : decode method_2_code 29 = .ok (.sipush 415, 3) := by decide +kernel
theorem d_method_2_code_32 : decode method_2_code 32 = .ok (.ireturn, 1) := by decide +kernel
def Q_f11 (Z : State) (a_PATH_NOT_FOUND : Addr) (a_METHOD_NOT_ALLOWED : Addr) (a_UNSUPPORTED_MEDIA_TYPE : Addr) (a_EXPECTATION_FAILED : Addr) (a_NOT_IMPLEMENTED : Addr) (a_HTTP_VERSION_NOT_SUPPORTED : Addr) (a_MALFORMED_REQUEST : Addr) (a_INTERNAL_ERROR : Addr) (h0 : Heap) (n0 : Nat) (v : Option Value) (h : Heap) (L : List Loc) : Prop := v = some (.int (415 : Int32)) ∧ Fr n0 L ∧ h = h0
set_option maxRecDepth 65536 in
set_option maxHeartbeats 40000000 in
theorem rm_f11 (l : Launch) (Z : State) (a0 : Array Value) (hw : ∀ d ∈ tables_1, d.before a0 Z = true) (ws : List Jvm.Cond) (a_PATH_NOT_FOUND : Addr) (a_METHOD_NOT_ALLOWED : Addr) (a_UNSUPPORTED_MEDIA_TYPE : Addr) (a_EXPECTATION_FAILED : Addr) (a_NOT_IMPLEMENTED : Addr) (a_HTTP_VERSION_NOT_SUPPORTED : Addr) (a_MALFORMED_REQUEST : Addr) (a_INTERNAL_ERROR : Addr) (h0 : Heap) (n0 : Nat) (O0 : Old Z n0 h0) (hE : EV Z a_PATH_NOT_FOUND a_METHOD_NOT_ALLOWED a_UNSUPPORTED_MEDIA_TYPE a_EXPECTATION_FAILED a_NOT_IMPLEMENTED a_HTTP_VERSION_NOT_SUPPORTED a_MALFORMED_REQUEST a_INTERNAL_ERROR) :
    MetFree l own_m1 (head1 (Jvm.Cond.code own_m1 method_2_code 1 (some .int) :: ws) ({ frames := 0, cells := 0, slots := 0, locals := 0 } : Room)) (fun a U => a = #[(.ref a_UNSUPPORTED_MEDIA_TYPE)] ∧ Z.Warmed39 U.vm ∧ U.heap = h0) (fun _ _ _ _ _ => True) (fun _ U o U' => ∃ v L, o = .returned v ∧ Q_f11 Z a_PATH_NOT_FOUND a_METHOD_NOT_ALLOWED a_UNSUPPORTED_MEDIA_TYPE a_EXPECTATION_FAILED a_NOT_IMPLEMENTED a_HTTP_VERSION_NOT_SUPPORTED a_MALFORMED_REQUEST a_INTERNAL_ERROR h0 n0 v U'.heap L ∧ FrameEnd U o U' L ({ frames := 0, cells := 0, slots := 0, locals := 0 } : Room).cells ({ frames := 0, cells := 0, slots := 0, locals := 0 } : Room).slots) := by
  refine MetFree.of_bodySF (plainFor_of_name pn_com_example_kwota_kwota_server_ErrorReasonOfStatusPinLaw) hisR ?_
  intro p e s m args below meth c s₁ Bd hml0 hP hK
  obtain ⟨rfl, hZ, hh⟩ := hP
  have hx := Bd.exec
  have hby := Bd.bytes
  have hml : c.maxLocals = 1 := hml0
  have hown : s.vm.findClass "com/example/kwota/kwota/server/ErrorReasonOfStatusPinLaw" = some m.cls := findClass_of_methodNamed Bd.named
  have hnm := (name_of_methodNamed Bd.named Bd.method).1
  have X0 : Stand p l e ({ frames := 0, cells := 0, slots := 0, locals := 0 } : Room) s m #[(.ref a_UNSUPPORTED_MEDIA_TYPE)] below meth c s₁ [] 0 0 := Stand.of_body Bd
  have e0 : s₁.heap = h0 := by rw [← hh, Bd.state]; rfl
  have N0 := Fr.nil n0
  refine Classical.byContradiction fun hNG => ?_
  have K0 := Keep.refl h0 []
  have k0 : ∀ t, own_At p e below m s₁ 0 #[.val (.ref a_UNSUPPORTED_MEDIA_TYPE)] [] t → own_En p e below m s₁ #[(.ref a_UNSUPPORTED_MEDIA_TYPE)] 1 t := fun t k => castTop (ef_f11 m a_UNSUPPORTED_MEDIA_TYPE ) k
  obtain ⟨S_PATH_NOT_FOUND, E_PATH_NOT_FOUND, S_METHOD_NOT_ALLOWED, E_METHOD_NOT_ALLOWED, S_UNSUPPORTED_MEDIA_TYPE, E_UNSUPPORTED_MEDIA_TYPE, S_EXPECTATION_FAILED, E_EXPECTATION_FAILED, S_NOT_IMPLEMENTED, E_NOT_IMPLEMENTED, S_HTTP_VERSION_NOT_SUPPORTED, E_HTTP_VERSION_NOT_SUPPORTED, S_MALFORMED_REQUEST, E_MALFORMED_REQUEST, S_INTERNAL_ERROR, E_INTERNAL_ERROR, F_EXPECTATION_FAILED_ordinal, F_PATH_NOT_FOUND_ordinal, F_METHOD_NOT_ALLOWED_ordinal, F_UNSUPPORTED_MEDIA_TYPE_ordinal, F_MALFORMED_REQUEST_ordinal, F_NOT_IMPLEMENTED_ordinal, F_HTTP_VERSION_NOT_SUPPORTED_ordinal, F_INTERNAL_ERROR_ordinal⟩ := (id hE : EV Z a_PATH_NOT_FOUND a_METHOD_NOT_ALLOWED a_UNSUPPORTED_MEDIA_TYPE a_EXPECTATION_FAILED a_NOT_IMPLEMENTED a_HTTP_VERSION_NOT_SUPPORTED a_MALFORMED_REQUEST a_INTERNAL_ERROR)
  obtain ⟨T1, X1, e1, st1⟩ := getS2 X0 hx hZ hown (host := "") (Or.inl (own_w hw 2 rfl)) Via.refl e0 (S_PATH_NOT_FOUND.ext O0.2) (g := (mkF m 1 #[.val (.ref a_UNSUPPORTED_MEDIA_TYPE)] [(.ref a_UNSUPPORTED_MEDIA_TYPE)])) rfl (hb hby d_method_2_code_1)
  obtain ⟨T2, X2, e2, st2⟩ := getS2 X1 hx hZ hown (host := "") (Or.inl (own_w hw 6 rfl)) Via.refl e1 (S_METHOD_NOT_ALLOWED.ext O0.2) (g := (mkF m 12 #[.val (.ref a_UNSUPPORTED_MEDIA_TYPE)] [(.ref a_UNSUPPORTED_MEDIA_TYPE)])) rfl (hb hby d_method_2_code_12)
  obtain ⟨T3, X3, e3, st3⟩ := getS2 X2 hx hZ hown (host := "") (Or.inl (own_w hw 8 rfl)) Via.refl e2 (S_UNSUPPORTED_MEDIA_TYPE.ext O0.2) (g := (mkF m 23 #[.val (.ref a_UNSUPPORTED_MEDIA_TYPE)] [(.ref a_UNSUPPORTED_MEDIA_TYPE)])) rfl (hb hby d_method_2_code_23)
  have k4 : ∀ t, own_At p e below m T3 32 #[.val (.ref a_UNSUPPORTED_MEDIA_TYPE)] [(.int (415 : Int32))] t → own_En p e below m s₁ #[(.ref a_UNSUPPORTED_MEDIA_TYPE)] 1 t := by
    intro t k
    refine k0 t ?_
    refine XS.aloadN X0.here hx rfl (hb hby d_method_2_code_0) rfl rfl ?_
    show own_At p e below m s₁ 1 #[.val (.ref a_UNSUPPORTED_MEDIA_TYPE)] [(.ref a_UNSUPPORTED_MEDIA_TYPE)] t
    refine st1 _ ?_
    show own_At p e below m T1 4 #[.val (.ref a_UNSUPPORTED_MEDIA_TYPE)] [(.ref a_PATH_NOT_FOUND), (.ref a_UNSUPPORTED_MEDIA_TYPE)] t
    refine Jvm.RoadKit.acmp (g := (mkF m 4 #[.val (.ref a_UNSUPPORTED_MEDIA_TYPE)] [(.ref a_PATH_NOT_FOUND), (.ref a_UNSUPPORTED_MEDIA_TYPE)])) X1 hx rfl rfl rfl (pc0 := 4) (pc' := 11) (same := false) rfl (hb hby d_method_2_code_4) rfl (decide_eq_false fun q => (F_UNSUPPORTED_MEDIA_TYPE_ordinal.ne F_PATH_NOT_FOUND_ordinal (fun q => absurd (Value.int.inj q) (by decide))) (Value.ref.inj q)) (by decide) (by decide) ?_
    show own_At p e below m T1 11 #[.val (.ref a_UNSUPPORTED_MEDIA_TYPE)] [] t
    refine XS.aloadN X1.here hx rfl (hb hby d_method_2_code_11) rfl rfl ?_
    show own_At p e below m T1 12 #[.val (.ref a_UNSUPPORTED_MEDIA_TYPE)] [(.ref a_UNSUPPORTED_MEDIA_TYPE)] t
    refine st2 _ ?_
    show own_At p e below m T2 15 #[.val (.ref a_UNSUPPORTED_MEDIA_TYPE)] [(.ref a_METHOD_NOT_ALLOWED), (.ref a_UNSUPPORTED_MEDIA_TYPE)] t
    refine Jvm.RoadKit.acmp (g := (mkF m 15 #[.val (.ref a_UNSUPPORTED_MEDIA_TYPE)] [(.ref a_METHOD_NOT_ALLOWED), (.ref a_UNSUPPORTED_MEDIA_TYPE)])) X2 hx rfl rfl rfl (pc0 := 15) (pc' := 22) (same := false) rfl (hb hby d_method_2_code_15) rfl (decide_eq_false fun q => (F_UNSUPPORTED_MEDIA_TYPE_ordinal.ne F_METHOD_NOT_ALLOWED_ordinal (fun q => absurd (Value.int.inj q) (by decide))) (Value.ref.inj q)) (by decide) (by decide) ?_
    show own_At p e below m T2 22 #[.val (.ref a_UNSUPPORTED_MEDIA_TYPE)] [] t
    refine XS.aloadN X2.here hx rfl (hb hby d_method_2_code_22) rfl rfl ?_
    show own_At p e below m T2 23 #[.val (.ref a_UNSUPPORTED_MEDIA_TYPE)] [(.ref a_UNSUPPORTED_MEDIA_TYPE)] t
    refine st3 _ ?_
    show own_At p e below m T3 26 #[.val (.ref a_UNSUPPORTED_MEDIA_TYPE)] [(.ref a_UNSUPPORTED_MEDIA_TYPE), (.ref a_UNSUPPORTED_MEDIA_TYPE)] t
    refine Jvm.RoadKit.acmp (g := (mkF m 26 #[.val (.ref a_UNSUPPORTED_MEDIA_TYPE)] [(.ref a_UNSUPPORTED_MEDIA_TYPE), (.ref a_UNSUPPORTED_MEDIA_TYPE)])) X3 hx rfl rfl rfl (pc0 := 26) (pc' := 29) (same := true) rfl (hb hby d_method_2_code_26) rfl (decide_eq_true rfl) (by decide) (by decide) ?_
    show own_At p e below m T3 29 #[.val (.ref a_UNSUPPORTED_MEDIA_TYPE)] [] t
    refine XS.sipush X3.here hx rfl (hb hby d_method_2_code_29) ?_
    show own_At p e below m T3 32 #[.val (.ref a_UNSUPPORTED_MEDIA_TYPE)] [(.int (415 : Int32))] t
    exact k
  obtain ⟨fs, hr, hrun, hended, hW, hsame⟩ := X3.leave (v := some (.int (415 : Int32))) (fun h => by rw [Bd.returns] at h; cases h)
  refine hNG ⟨_, _, k4 _ ?_, hrun, hended, _, _, rfl, ?_, ⟨_, rfl⟩, hW, hsame.mono (by decide) (by decide)⟩
  · exact retOut X3 hx (t := .int) Bd.returns rfl (Or.inl ⟨rfl, Or.inl rfl, _, rfl⟩) (hb hby d_method_2_code_32) hr
  · show Q_f11 Z a_PATH_NOT_FOUND a_METHOD_NOT_ALLOWED a_UNSUPPORTED_MEDIA_TYPE a_EXPECTATION_FAILED a_NOT_IMPLEMENTED a_HTTP_VERSION_NOT_SUPPORTED a_MALFORMED_REQUEST a_INTERNAL_ERROR h0 n0 _ T3.heap _
    rw [e3]
    exact ⟨rfl, N0, rfl⟩
def Q_f9 (Z : State) (a_PATH_NOT_FOUND : Addr) (a_METHOD_NOT_ALLOWED : Addr) (a_UNSUPPORTED_MEDIA_TYPE : Addr) (a_EXPECTATION_FAILED : Addr) (a_NOT_IMPLEMENTED : Addr) (a_HTTP_VERSION_NOT_SUPPORTED : Addr) (a_MALFORMED_REQUEST : Addr) (a_INTERNAL_ERROR : Addr) (h0 : Heap) (n0 : Nat) (v : Option Value) (h : Heap) (L : List Loc) : Prop := v = some (.int (1 : Int32)) ∧ Fr n0 L ∧ h = h0
set_option maxRecDepth 65536 in
set_option maxHeartbeats 40000000 in
theorem rm_f9 (l : Launch) (Z : State) (a0 : Array Value) (hw : ∀ d ∈ tables_1, d.before a0 Z = true) (ws : List Jvm.Cond) (a_PATH_NOT_FOUND : Addr) (a_METHOD_NOT_ALLOWED : Addr) (a_UNSUPPORTED_MEDIA_TYPE : Addr) (a_EXPECTATION_FAILED : Addr) (a_NOT_IMPLEMENTED : Addr) (a_HTTP_VERSION_NOT_SUPPORTED : Addr) (a_MALFORMED_REQUEST : Addr) (a_INTERNAL_ERROR : Addr) (h0 : Heap) (n0 : Nat) (O0 : Old Z n0 h0) (hE : EV Z a_PATH_NOT_FOUND a_METHOD_NOT_ALLOWED a_UNSUPPORTED_MEDIA_TYPE a_EXPECTATION_FAILED a_NOT_IMPLEMENTED a_HTTP_VERSION_NOT_SUPPORTED a_MALFORMED_REQUEST a_INTERNAL_ERROR) :
    MetFree l own_m2 (head1 (Jvm.Cond.code own_m2 method_3_code 3 (some .boolean) :: ws) ({ frames := 1, cells := 0, slots := 0, locals := 16 } : Room)) (fun a U => a = #[(.int (415 : Int32))] ∧ Z.Warmed39 U.vm ∧ U.heap = h0) (fun _ _ _ _ _ => True) (fun _ U o U' => ∃ v L, o = .returned v ∧ Q_f9 Z a_PATH_NOT_FOUND a_METHOD_NOT_ALLOWED a_UNSUPPORTED_MEDIA_TYPE a_EXPECTATION_FAILED a_NOT_IMPLEMENTED a_HTTP_VERSION_NOT_SUPPORTED a_MALFORMED_REQUEST a_INTERNAL_ERROR h0 n0 v U'.heap L ∧ FrameEnd U o U' L ({ frames := 1, cells := 0, slots := 0, locals := 16 } : Room).cells ({ frames := 1, cells := 0, slots := 0, locals := 16 } : Room).slots) := by
  refine MetFree.of_bodySF (plainFor_of_name pn_com_example_kwota_kwota_server_ErrorReasonOfStatusPinLaw) hisR ?_
  intro p e s m args below meth c s₁ Bd hml0 hP hK
  obtain ⟨rfl, hZ, hh⟩ := hP
  have hx := Bd.exec
  have hby := Bd.bytes
  have hml : c.maxLocals = 3 := hml0
  have hown : s.vm.findClass "com/example/kwota/kwota/server/ErrorReasonOfStatusPinLaw" = some m.cls := findClass_of_methodNamed Bd.named
  have hnm := (name_of_methodNamed Bd.named Bd.method).1
  have X0 : Stand p l e ({ frames := 1, cells := 0, slots := 0, locals := 16 } : Room) s m #[(.int (415 : Int32))] below meth c s₁ [] 0 0 := Stand.of_body Bd
  have e0 : s₁.heap = h0 := by rw [← hh, Bd.state]; rfl
  have N0 := Fr.nil n0
  refine Classical.byContradiction fun hNG => ?_
  have K0 := Keep.refl h0 []
  have k0 : ∀ t, own_At p e below m s₁ 0 #[.val (.int (415 : Int32)), .unset, .unset] [] t → own_En p e below m s₁ #[(.int (415 : Int32))] 3 t := fun t k => castTop (ef_f9 m ((415 : Int32)) ) k
  obtain ⟨S_PATH_NOT_FOUND, E_PATH_NOT_FOUND, S_METHOD_NOT_ALLOWED, E_METHOD_NOT_ALLOWED, S_UNSUPPORTED_MEDIA_TYPE, E_UNSUPPORTED_MEDIA_TYPE, S_EXPECTATION_FAILED, E_EXPECTATION_FAILED, S_NOT_IMPLEMENTED, E_NOT_IMPLEMENTED, S_HTTP_VERSION_NOT_SUPPORTED, E_HTTP_VERSION_NOT_SUPPORTED, S_MALFORMED_REQUEST, E_MALFORMED_REQUEST, S_INTERNAL_ERROR, E_INTERNAL_ERROR, F_EXPECTATION_FAILED_ordinal, F_PATH_NOT_FOUND_ordinal, F_METHOD_NOT_ALLOWED_ordinal, F_UNSUPPORTED_MEDIA_TYPE_ordinal, F_MALFORMED_REQUEST_ordinal, F_NOT_IMPLEMENTED_ordinal, F_HTTP_VERSION_NOT_SUPPORTED_ordinal, F_INTERNAL_ERROR_ordinal⟩ := (id hE : EV Z a_PATH_NOT_FOUND a_METHOD_NOT_ALLOWED a_UNSUPPORTED_MEDIA_TYPE a_EXPECTATION_FAILED a_NOT_IMPLEMENTED a_HTTP_VERSION_NOT_SUPPORTED a_MALFORMED_REQUEST a_INTERNAL_ERROR)
  obtain ⟨_, _, ⟨T1, L1, k1, n1⟩, -, X1, ⟨Lc1, hQ1, l1, y1, z1⟩, st1⟩ := Jvm.LawKit.callS X0 hx (y := own_m0) hown (mvT hZ (own_w hw 27 rfl)) (mvT hZ (own_w hw 28 rfl)) (mvT hZ (own_w hw 3 rfl)) (mvT hZ (own_w hw 29 rfl)) (by decide) (backOf (W := 0) (rm_f10 l Z a0 hw []  _ _ _ _ _ _ _ _ h0 n0 O0 hE) hZ (own_w hw 29 rfl) (own_w hw 3 rfl) (by decide) (by decide)) (g := (mkF m 1 #[.val (.int (415 : Int32)), .unset, .unset] [(.int (415 : Int32))])) rfl (by rw [hml]; rfl) (argsL := [(.int (415 : Int32))]) (rest := []) (lenOf pd__I_Lcom_example_kwota_kwota_server_ErrorReason_ rfl) rfl (by show 2 * 0 + _ ≤ _; exact Nat.le_of_eq rfl) (hb hby d_method_3_code_1) (fun _ _ => ⟨rfl, e0, (by decide : 0 + 0 ≤ _), (by decide : 0 + 0 ≤ _)⟩)
  dsimp only [Pt.U, Pt.locs, Pt.cells, Pt.slots] at X1 l1 y1 z1 st1 hQ1
  subst l1 y1 z1
  obtain ⟨rfl, N1q, hp1⟩ := hQ1
  have N1 := Fr.app N0 N1q
  obtain ⟨_, _, ⟨T2, L2, k2, n2⟩, -, X2, ⟨Lc2, hQ2, l2, y2, z2⟩, st2⟩ := Jvm.LawKit.callS X1 hx (y := own_m1) hown (mvT hZ (own_w hw 20 rfl)) (mvT hZ (own_w hw 21 rfl)) (mvT hZ (own_w hw 22 rfl)) (mvT hZ (own_w hw 23 rfl)) (by decide) (backOf (W := 0) (rm_f11 l Z a0 hw []  _ _ _ _ _ _ _ _ h0 n0 O0 hE) hZ (own_w hw 23 rfl) (own_w hw 22 rfl) (by decide) (by decide)) (g := (mkF m 6 #[.val (.int (415 : Int32)), .val (.ref a_UNSUPPORTED_MEDIA_TYPE), .unset] [(.ref a_UNSUPPORTED_MEDIA_TYPE)])) rfl (by rw [hml]; rfl) (argsL := [(.ref a_UNSUPPORTED_MEDIA_TYPE)]) (rest := []) (lenOf pd__Lcom_example_kwota_kwota_server_ErrorReason__I rfl) rfl (by show 2 * 0 + _ ≤ _; exact Nat.le_of_eq rfl) (hb hby d_method_3_code_6) (fun _ _ => ⟨rfl, hp1, (by decide : 0 + 0 ≤ _), (by decide : 0 + 0 ≤ _)⟩)
  dsimp only [Pt.U, Pt.locs, Pt.cells, Pt.slots] at X2 l2 y2 z2 st2 hQ2
  subst l2 y2 z2
  obtain ⟨rfl, N2q, hp2⟩ := hQ2
  have N2 := Fr.app N1 N2q
  have k3 : ∀ t, own_At p e below m T2 22 #[.val (.int (415 : Int32)), .val (.ref a_UNSUPPORTED_MEDIA_TYPE), .val (.int (415 : Int32))] [(.int (1 : Int32))] t → own_En p e below m s₁ #[(.int (415 : Int32))] 3 t := by
    intro t k
    refine k0 t ?_
    refine XS.iloadN X0.here hx rfl (hb hby d_method_3_code_0) rfl ?_
    show own_At p e below m s₁ 1 #[.val (.int (415 : Int32)), .unset, .unset] [(.int (415 : Int32))] t
    refine st1 _ ?_
    show own_At p e below m T1 4 #[.val (.int (415 : Int32)), .unset, .unset] [(.ref a_UNSUPPORTED_MEDIA_TYPE)] t
    refine XS.astoreN X1.here hx rfl (hb hby d_method_3_code_4) rfl rfl (l' := #[.val (.int (415 : Int32)), .val (.ref a_UNSUPPORTED_MEDIA_TYPE), .unset]) rfl ?_
    show own_At p e below m T1 5 #[.val (.int (415 : Int32)), .val (.ref a_UNSUPPORTED_MEDIA_TYPE), .unset] [] t
    refine XS.aloadN X1.here hx rfl (hb hby d_method_3_code_5) rfl rfl ?_
    show own_At p e below m T1 6 #[.val (.int (415 : Int32)), .val (.ref a_UNSUPPORTED_MEDIA_TYPE), .unset] [(.ref a_UNSUPPORTED_MEDIA_TYPE)] t
    refine st2 _ ?_
    show own_At p e below m T2 9 #[.val (.int (415 : Int32)), .val (.ref a_UNSUPPORTED_MEDIA_TYPE), .unset] [(.int (415 : Int32))] t
    refine XS.istoreN X2.here hx rfl (hb hby d_method_3_code_9) rfl (l' := #[.val (.int (415 : Int32)), .val (.ref a_UNSUPPORTED_MEDIA_TYPE), .val (.int (415 : Int32))]) rfl ?_
    show own_At p e below m T2 10 #[.val (.int (415 : Int32)), .val (.ref a_UNSUPPORTED_MEDIA_TYPE), .val (.int (415 : Int32))] [] t
    refine XS.iloadN X2.here hx rfl (hb hby d_method_3_code_10) rfl ?_
    show own_At p e below m T2 11 #[.val (.int (415 : Int32)), .val (.ref a_UNSUPPORTED_MEDIA_TYPE), .val (.int (415 : Int32))] [(.int (415 : Int32))] t
    refine XS.ifYes X2.here hx rfl (pc0 := 11) (pc' := 16) rfl (hb hby d_method_3_code_11) rfl ((if0 _ _).trans (tlt (by decide : (0 : Int32) < (415 : Int32))).2.2.1) (by decide) (by decide) ?_
    show own_At p e below m T2 16 #[.val (.int (415 : Int32)), .val (.ref a_UNSUPPORTED_MEDIA_TYPE), .val (.int (415 : Int32))] [] t
    refine XS.iloadN X2.here hx rfl (hb hby d_method_3_code_16) rfl ?_
    show own_At p e below m T2 17 #[.val (.int (415 : Int32)), .val (.ref a_UNSUPPORTED_MEDIA_TYPE), .val (.int (415 : Int32))] [(.int (415 : Int32))] t
    refine XS.iloadN X2.here hx rfl (hb hby d_method_3_code_17) rfl ?_
    show own_At p e below m T2 18 #[.val (.int (415 : Int32)), .val (.ref a_UNSUPPORTED_MEDIA_TYPE), .val (.int (415 : Int32))] [(.int (415 : Int32)), (.int (415 : Int32))] t
    refine XS.icmpNo X2.here hx rfl (hb hby d_method_3_code_18) rfl (teq (by decide : (415 : Int32) = (415 : Int32))).2 ?_
    show own_At p e below m T2 21 #[.val (.int (415 : Int32)), .val (.ref a_UNSUPPORTED_MEDIA_TYPE), .val (.int (415 : Int32))] [] t
    refine XS.iconst X2.here hx rfl (hb hby d_method_3_code_21) ?_
    show own_At p e below m T2 22 #[.val (.int (415 : Int32)), .val (.ref a_UNSUPPORTED_MEDIA_TYPE), .val (.int (415 : Int32))] [(.int (1 : Int32))] t
    exact k
  obtain ⟨fs, hr, hrun, hended, hW, hsame⟩ := X2.leave (v := some (.int (1 : Int32))) (fun h => by rw [Bd.returns] at h; cases h)
  refine hNG ⟨_, _, k3 _ ?_, hrun, hended, _, _, rfl, ?_, ⟨_, rfl⟩, hW, hsame.mono (by decide) (by decide)⟩
  · exact retN X2 hx (t := .boolean) Bd.returns (by simp) (hb hby d_method_3_code_22) hr
  · show Q_f9 Z a_PATH_NOT_FOUND a_METHOD_NOT_ALLOWED a_UNSUPPORTED_MEDIA_TYPE a_EXPECTATION_FAILED a_NOT_IMPLEMENTED a_HTTP_VERSION_NOT_SUPPORTED a_MALFORMED_REQUEST a_INTERNAL_ERROR h0 n0 _ T2.heap _
    rw [hp2]
    exact ⟨rfl, N2, rfl⟩
theorem ef_f12 (m : MethodId) (x0 : Int32)  : entryFrame m #[(.int x0)] 3 = mkF m 0 #[.val (.int x0), .unset, .unset] [] := by first | (simp [entryFrame, mkF, argsToLocals, Value.category]; done) | rfl
theorem ef_f13 (m : MethodId) (x0 : Int32)  : entryFrame m #[(.int x0)] 1 = mkF m 0 #[.val (.int x0)] [] := by first | (simp [entryFrame, mkF, argsToLocals, Value.category]; done) | rfl
theorem d_prog_59_method_4_code_72 : decode prog_59_method_4_code 72 = .ok (.getstatic 67, 3) := by decide +kernel
theorem d_prog_59_method_4_code_75 : decode prog_59_method_4_code 75 = .ok (.areturn, 1) := by decide +kernel
def Q_f13 (Z : State) (a_PATH_NOT_FOUND : Addr) (a_METHOD_NOT_ALLOWED : Addr) (a_UNSUPPORTED_MEDIA_TYPE : Addr) (a_EXPECTATION_FAILED : Addr) (a_NOT_IMPLEMENTED : Addr) (a_HTTP_VERSION_NOT_SUPPORTED : Addr) (a_MALFORMED_REQUEST : Addr) (a_INTERNAL_ERROR : Addr) (h0 : Heap) (n0 : Nat) (v : Option Value) (h : Heap) (L : List Loc) : Prop := v = some (.ref a_EXPECTATION_FAILED) ∧ Fr n0 L ∧ h = h0
set_option maxRecDepth 65536 in
set_option maxHeartbeats 40000000 in
theorem rm_f13 (l : Launch) (Z : State) (a0 : Array Value) (hw : ∀ d ∈ tables_1, d.before a0 Z = true) (ws : List Jvm.Cond) (a_PATH_NOT_FOUND : Addr) (a_METHOD_NOT_ALLOWED : Addr) (a_UNSUPPORTED_MEDIA_TYPE : Addr) (a_EXPECTATION_FAILED : Addr) (a_NOT_IMPLEMENTED : Addr) (a_HTTP_VERSION_NOT_SUPPORTED : Addr) (a_MALFORMED_REQUEST : Addr) (a_INTERNAL_ERROR : Addr) (h0 : Heap) (n0 : Nat) (O0 : Old Z n0 h0) (hE : EV Z a_PATH_NOT_FOUND a_METHOD_NOT_ALLOWED a_UNSUPPORTED_MEDIA_TYPE a_EXPECTATION_FAILED a_NOT_IMPLEMENTED a_HTTP_VERSION_NOT_SUPPORTED a_MALFORMED_REQUEST a_INTERNAL_ERROR) :
    MetFree l own_m0 (head1 (Jvm.Cond.code own_m0 prog_59_method_4_code 1 (some (.object "com/example/kwota/kwota/server/ErrorReason")) :: ws) ({ frames := 0, cells := 0, slots := 0, locals := 0 } : Room)) (fun a U => a = #[(.int (417 : Int32))] ∧ Z.Warmed39 U.vm ∧ U.heap = h0) (fun _ _ _ _ _ => True) (fun _ U o U' => ∃ v L, o = .returned v ∧ Q_f13 Z a_PATH_NOT_FOUND a_METHOD_NOT_ALLOWED a_UNSUPPORTED_MEDIA_TYPE a_EXPECTATION_FAILED a_NOT_IMPLEMENTED a_HTTP_VERSION_NOT_SUPPORTED a_MALFORMED_REQUEST a_INTERNAL_ERROR h0 n0 v U'.heap L ∧ FrameEnd U o U' L ({ frames := 0, cells := 0, slots := 0, locals := 0 } : Room).cells ({ frames := 0, cells := 0, slots := 0, locals := 0 } : Room).slots) := by
  refine MetFree.of_bodySF (plainFor_of_name pn_com_example_kwota_kwota_server_ErrorReason) hisR ?_
  intro p e s m args below meth c s₁ Bd hml0 hP hK
  obtain ⟨rfl, hZ, hh⟩ := hP
  have hx := Bd.exec
  have hby := Bd.bytes
  have hml : c.maxLocals = 1 := hml0
  have hown : s.vm.findClass "com/example/kwota/kwota/server/ErrorReason" = some m.cls := findClass_of_methodNamed Bd.named
  have hnm := (name_of_methodNamed Bd.named Bd.method).1
  have X0 : Stand p l e ({ frames := 0, cells := 0, slots := 0, locals := 0 } : Room) s m #[(.int (417 : Int32))] below meth c s₁ [] 0 0 := Stand.of_body Bd
  have e0 : s₁.heap = h0 := by rw [← hh, Bd.state]; rfl
  have N0 := Fr.nil n0
  refine Classical.byContradiction fun hNG => ?_
  have K0 := Keep.refl h0 []
  have k0 : ∀ t, own_At p e below m s₁ 0 #[.val (.int (417 : Int32))] [] t → own_En p e below m s₁ #[(.int (417 : Int32))] 1 t := fun t k => castTop (ef_f13 m ((417 : Int32)) ) k
  obtain ⟨S_PATH_NOT_FOUND, E_PATH_NOT_FOUND, S_METHOD_NOT_ALLOWED, E_METHOD_NOT_ALLOWED, S_UNSUPPORTED_MEDIA_TYPE, E_UNSUPPORTED_MEDIA_TYPE, S_EXPECTATION_FAILED, E_EXPECTATION_FAILED, S_NOT_IMPLEMENTED, E_NOT_IMPLEMENTED, S_HTTP_VERSION_NOT_SUPPORTED, E_HTTP_VERSION_NOT_SUPPORTED, S_MALFORMED_REQUEST, E_MALFORMED_REQUEST, S_INTERNAL_ERROR, E_INTERNAL_ERROR, F_EXPECTATION_FAILED_ordinal, F_PATH_NOT_FOUND_ordinal, F_METHOD_NOT_ALLOWED_ordinal, F_UNSUPPORTED_MEDIA_TYPE_ordinal, F_MALFORMED_REQUEST_ordinal, F_NOT_IMPLEMENTED_ordinal, F_HTTP_VERSION_NOT_SUPPORTED_ordinal, F_INTERNAL_ERROR_ordinal⟩ := (id hE : EV Z a_PATH_NOT_FOUND a_METHOD_NOT_ALLOWED a_UNSUPPORTED_MEDIA_TYPE a_EXPECTATION_FAILED a_NOT_IMPLEMENTED a_HTTP_VERSION_NOT_SUPPORTED a_MALFORMED_REQUEST a_INTERNAL_ERROR)
  obtain ⟨T1, X1, e1, st1⟩ := getS2 X0 hx hZ hown (host := "") (Or.inl (own_w hw 31 rfl)) Via.refl e0 (S_EXPECTATION_FAILED.ext O0.2) (g := (mkF m 72 #[.val (.int (417 : Int32))] [])) rfl (hb hby d_prog_59_method_4_code_72)
  have k2 : ∀ t, own_At p e below m T1 75 #[.val (.int (417 : Int32))] [(.ref a_EXPECTATION_FAILED)] t → own_En p e below m s₁ #[(.int (417 : Int32))] 1 t := by
    intro t k
    refine k0 t ?_
    refine XS.iloadN X0.here hx rfl (hb hby d_prog_59_method_4_code_0) rfl ?_
    show own_At p e below m s₁ 1 #[.val (.int (417 : Int32))] [(.int (417 : Int32))] t
    refine own_lsw X0.here hx rfl (pc0 := 1) (pc' := 72) rfl (hb hby d_prog_59_method_4_code_1) rfl (by decide) (o := 71) (by decide) (by decide) (by decide) ?_
    show own_At p e below m s₁ 72 #[.val (.int (417 : Int32))] [] t
    refine st1 _ ?_
    show own_At p e below m T1 75 #[.val (.int (417 : Int32))] [(.ref a_EXPECTATION_FAILED)] t
    exact k
  obtain ⟨fs, hr, hrun, hended, hW, hsame⟩ := X1.leave (v := some (.ref a_EXPECTATION_FAILED)) (fun h => by rw [Bd.returns] at h; cases h)
  refine hNG ⟨_, _, k2 _ ?_, hrun, hended, _, _, rfl, ?_, ⟨_, rfl⟩, hW, hsame.mono (by decide) (by decide)⟩
  · exact retOut X1 hx (t := (.object "com/example/kwota/kwota/server/ErrorReason")) Bd.returns rfl (Or.inr (Or.inr (Or.inr (Or.inr ⟨rfl, rfl, rfl⟩)))) (hb hby d_prog_59_method_4_code_75) hr
  · show Q_f13 Z a_PATH_NOT_FOUND a_METHOD_NOT_ALLOWED a_UNSUPPORTED_MEDIA_TYPE a_EXPECTATION_FAILED a_NOT_IMPLEMENTED a_HTTP_VERSION_NOT_SUPPORTED a_MALFORMED_REQUEST a_INTERNAL_ERROR h0 n0 _ T1.heap _
    rw [e1]
    exact ⟨rfl, N0, rfl⟩
theorem ef_f14 (m : MethodId) (x0 : Addr)  : entryFrame m #[(.ref x0)] 1 = mkF m 0 #[.val (.ref x0)] [] := by first | (simp [entryFrame, mkF, argsToLocals, Value.category]; done) | rfl
theorem d_method_2_code_40 : decode method_2_code 40 = .ok (.sipush 417, 3) := by decide +kernel
theorem d_method_2_code_43 : decode method_2_code 43 = .ok (.ireturn, 1) := by decide +kernel
def Q_f14 (Z : State) (a_PATH_NOT_FOUND : Addr) (a_METHOD_NOT_ALLOWED : Addr) (a_UNSUPPORTED_MEDIA_TYPE : Addr) (a_EXPECTATION_FAILED : Addr) (a_NOT_IMPLEMENTED : Addr) (a_HTTP_VERSION_NOT_SUPPORTED : Addr) (a_MALFORMED_REQUEST : Addr) (a_INTERNAL_ERROR : Addr) (h0 : Heap) (n0 : Nat) (v : Option Value) (h : Heap) (L : List Loc) : Prop := v = some (.int (417 : Int32)) ∧ Fr n0 L ∧ h = h0
set_option maxRecDepth 65536 in
set_option maxHeartbeats 40000000 in
theorem rm_f14 (l : Launch) (Z : State) (a0 : Array Value) (hw : ∀ d ∈ tables_1, d.before a0 Z = true) (ws : List Jvm.Cond) (a_PATH_NOT_FOUND : Addr) (a_METHOD_NOT_ALLOWED : Addr) (a_UNSUPPORTED_MEDIA_TYPE : Addr) (a_EXPECTATION_FAILED : Addr) (a_NOT_IMPLEMENTED : Addr) (a_HTTP_VERSION_NOT_SUPPORTED : Addr) (a_MALFORMED_REQUEST : Addr) (a_INTERNAL_ERROR : Addr) (h0 : Heap) (n0 : Nat) (O0 : Old Z n0 h0) (hE : EV Z a_PATH_NOT_FOUND a_METHOD_NOT_ALLOWED a_UNSUPPORTED_MEDIA_TYPE a_EXPECTATION_FAILED a_NOT_IMPLEMENTED a_HTTP_VERSION_NOT_SUPPORTED a_MALFORMED_REQUEST a_INTERNAL_ERROR) :
    MetFree l own_m1 (head1 (Jvm.Cond.code own_m1 method_2_code 1 (some .int) :: ws) ({ frames := 0, cells := 0, slots := 0, locals := 0 } : Room)) (fun a U => a = #[(.ref a_EXPECTATION_FAILED)] ∧ Z.Warmed39 U.vm ∧ U.heap = h0) (fun _ _ _ _ _ => True) (fun _ U o U' => ∃ v L, o = .returned v ∧ Q_f14 Z a_PATH_NOT_FOUND a_METHOD_NOT_ALLOWED a_UNSUPPORTED_MEDIA_TYPE a_EXPECTATION_FAILED a_NOT_IMPLEMENTED a_HTTP_VERSION_NOT_SUPPORTED a_MALFORMED_REQUEST a_INTERNAL_ERROR h0 n0 v U'.heap L ∧ FrameEnd U o U' L ({ frames := 0, cells := 0, slots := 0, locals := 0 } : Room).cells ({ frames := 0, cells := 0, slots := 0, locals := 0 } : Room).slots) := by
  refine MetFree.of_bodySF (plainFor_of_name pn_com_example_kwota_kwota_server_ErrorReasonOfStatusPinLaw) hisR ?_
  intro p e s m args below meth c s₁ Bd hml0 hP hK
  obtain ⟨rfl, hZ, hh⟩ := hP
  have hx := Bd.exec
  have hby := Bd.bytes
  have hml : c.maxLocals = 1 := hml0
  have hown : s.vm.findClass "com/example/kwota/kwota/server/ErrorReasonOfStatusPinLaw" = some m.cls := findClass_of_methodNamed Bd.named
  have hnm := (name_of_methodNamed Bd.named Bd.method).1
  have X0 : Stand p l e ({ frames := 0, cells := 0, slots := 0, locals := 0 } : Room) s m #[(.ref a_EXPECTATION_FAILED)] below meth c s₁ [] 0 0 := Stand.of_body Bd
  have e0 : s₁.heap = h0 := by rw [← hh, Bd.state]; rfl
  have N0 := Fr.nil n0
  refine Classical.byContradiction fun hNG => ?_
  have K0 := Keep.refl h0 []
  have k0 : ∀ t, own_At p e below m s₁ 0 #[.val (.ref a_EXPECTATION_FAILED)] [] t → own_En p e below m s₁ #[(.ref a_EXPECTATION_FAILED)] 1 t := fun t k => castTop (ef_f14 m a_EXPECTATION_FAILED ) k
  obtain ⟨S_PATH_NOT_FOUND, E_PATH_NOT_FOUND, S_METHOD_NOT_ALLOWED, E_METHOD_NOT_ALLOWED, S_UNSUPPORTED_MEDIA_TYPE, E_UNSUPPORTED_MEDIA_TYPE, S_EXPECTATION_FAILED, E_EXPECTATION_FAILED, S_NOT_IMPLEMENTED, E_NOT_IMPLEMENTED, S_HTTP_VERSION_NOT_SUPPORTED, E_HTTP_VERSION_NOT_SUPPORTED, S_MALFORMED_REQUEST, E_MALFORMED_REQUEST, S_INTERNAL_ERROR, E_INTERNAL_ERROR, F_EXPECTATION_FAILED_ordinal, F_PATH_NOT_FOUND_ordinal, F_METHOD_NOT_ALLOWED_ordinal, F_UNSUPPORTED_MEDIA_TYPE_ordinal, F_MALFORMED_REQUEST_ordinal, F_NOT_IMPLEMENTED_ordinal, F_HTTP_VERSION_NOT_SUPPORTED_ordinal, F_INTERNAL_ERROR_ordinal⟩ := (id hE : EV Z a_PATH_NOT_FOUND a_METHOD_NOT_ALLOWED a_UNSUPPORTED_MEDIA_TYPE a_EXPECTATION_FAILED a_NOT_IMPLEMENTED a_HTTP_VERSION_NOT_SUPPORTED a_MALFORMED_REQUEST a_INTERNAL_ERROR)
  obtain ⟨T1, X1, e1, st1⟩ := getS2 X0 hx hZ hown (host := "") (Or.inl (own_w hw 2 rfl)) Via.refl e0 (S_PATH_NOT_FOUND.ext O0.2) (g := (mkF m 1 #[.val (.ref a_EXPECTATION_FAILED)] [(.ref a_EXPECTATION_FAILED)])) rfl (hb hby d_method_2_code_1)
  obtain ⟨T2, X2, e2, st2⟩ := getS2 X1 hx hZ hown (host := "") (Or.inl (own_w hw 6 rfl)) Via.refl e1 (S_METHOD_NOT_ALLOWED.ext O0.2) (g := (mkF m 12 #[.val (.ref a_EXPECTATION_FAILED)] [(.ref a_EXPECTATION_FAILED)])) rfl (hb hby d_method_2_code_12)
  obtain ⟨T3, X3, e3, st3⟩ := getS2 X2 hx hZ hown (host := "") (Or.inl (own_w hw 8 rfl)) Via.refl e2 (S_UNSUPPORTED_MEDIA_TYPE.ext O0.2) (g := (mkF m 23 #[.val (.ref a_EXPECTATION_FAILED)] [(.ref a_EXPECTATION_FAILED)])) rfl (hb hby d_method_2_code_23)
  obtain ⟨T4, X4, e4, st4⟩ := getS2 X3 hx hZ hown (host := "") (Or.inl (own_w hw 10 rfl)) Via.refl e3 (S_EXPECTATION_FAILED.ext O0.2) (g := (mkF m 34 #[.val (.ref a_EXPECTATION_FAILED)] [(.ref a_EXPECTATION_FAILED)])) rfl (hb hby d_method_2_code_34)
  have k5 : ∀ t, own_At p e below m T4 43 #[.val (.ref a_EXPECTATION_FAILED)] [(.int (417 : Int32))] t → own_En p e below m s₁ #[(.ref a_EXPECTATION_FAILED)] 1 t := by
    intro t k
    refine k0 t ?_
    refine XS.aloadN X0.here hx rfl (hb hby d_method_2_code_0) rfl rfl ?_
    show own_At p e below m s₁ 1 #[.val (.ref a_EXPECTATION_FAILED)] [(.ref a_EXPECTATION_FAILED)] t
    refine st1 _ ?_
    show own_At p e below m T1 4 #[.val (.ref a_EXPECTATION_FAILED)] [(.ref a_PATH_NOT_FOUND), (.ref a_EXPECTATION_FAILED)] t
    refine Jvm.RoadKit.acmp (g := (mkF m 4 #[.val (.ref a_EXPECTATION_FAILED)] [(.ref a_PATH_NOT_FOUND), (.ref a_EXPECTATION_FAILED)])) X1 hx rfl rfl rfl (pc0 := 4) (pc' := 11) (same := false) rfl (hb hby d_method_2_code_4) rfl (decide_eq_false fun q => (F_EXPECTATION_FAILED_ordinal.ne F_PATH_NOT_FOUND_ordinal (fun q => absurd (Value.int.inj q) (by decide))) (Value.ref.inj q)) (by decide) (by decide) ?_
    show own_At p e below m T1 11 #[.val (.ref a_EXPECTATION_FAILED)] [] t
    refine XS.aloadN X1.here hx rfl (hb hby d_method_2_code_11) rfl rfl ?_
    show own_At p e below m T1 12 #[.val (.ref a_EXPECTATION_FAILED)] [(.ref a_EXPECTATION_FAILED)] t
    refine st2 _ ?_
    show own_At p e below m T2 15 #[.val (.ref a_EXPECTATION_FAILED)] [(.ref a_METHOD_NOT_ALLOWED), (.ref a_EXPECTATION_FAILED)] t
    refine Jvm.RoadKit.acmp (g := (mkF m 15 #[.val (.ref a_EXPECTATION_FAILED)] [(.ref a_METHOD_NOT_ALLOWED), (.ref a_EXPECTATION_FAILED)])) X2 hx rfl rfl rfl (pc0 := 15) (pc' := 22) (same := false) rfl (hb hby d_method_2_code_15) rfl (decide_eq_false fun q => (F_EXPECTATION_FAILED_ordinal.ne F_METHOD_NOT_ALLOWED_ordinal (fun q => absurd (Value.int.inj q) (by decide))) (Value.ref.inj q)) (by decide) (by decide) ?_
    show own_At p e below m T2 22 #[.val (.ref a_EXPECTATION_FAILED)] [] t
    refine XS.aloadN X2.here hx rfl (hb hby d_method_2_code_22) rfl rfl ?_
    show own_At p e below m T2 23 #[.val (.ref a_EXPECTATION_FAILED)] [(.ref a_EXPECTATION_FAILED)] t
    refine st3 _ ?_
    show own_At p e below m T3 26 #[.val (.ref a_EXPECTATION_FAILED)] [(.ref a_UNSUPPORTED_MEDIA_TYPE), (.ref a_EXPECTATION_FAILED)] t
    refine Jvm.RoadKit.acmp (g := (mkF m 26 #[.val (.ref a_EXPECTATION_FAILED)] [(.ref a_UNSUPPORTED_MEDIA_TYPE), (.ref a_EXPECTATION_FAILED)])) X3 hx rfl rfl rfl (pc0 := 26) (pc' := 33) (same := false) rfl (hb hby d_method_2_code_26) rfl (decide_eq_false fun q => (F_EXPECTATION_FAILED_ordinal.ne F_UNSUPPORTED_MEDIA_TYPE_ordinal (fun q => absurd (Value.int.inj q) (by decide))) (Value.ref.inj q)) (by decide) (by decide) ?_
    show own_At p e below m T3 33 #[.val (.ref a_EXPECTATION_FAILED)] [] t
    refine XS.aloadN X3.here hx rfl (hb hby d_method_2_code_33) rfl rfl ?_
    show own_At p e below m T3 34 #[.val (.ref a_EXPECTATION_FAILED)] [(.ref a_EXPECTATION_FAILED)] t
    refine st4 _ ?_
    show own_At p e below m T4 37 #[.val (.ref a_EXPECTATION_FAILED)] [(.ref a_EXPECTATION_FAILED), (.ref a_EXPECTATION_FAILED)] t
    refine Jvm.RoadKit.acmp (g := (mkF m 37 #[.val (.ref a_EXPECTATION_FAILED)] [(.ref a_EXPECTATION_FAILED), (.ref a_EXPECTATION_FAILED)])) X4 hx rfl rfl rfl (pc0 := 37) (pc' := 40) (same := true) rfl (hb hby d_method_2_code_37) rfl (decide_eq_true rfl) (by decide) (by decide) ?_
    show own_At p e below m T4 40 #[.val (.ref a_EXPECTATION_FAILED)] [] t
    refine XS.sipush X4.here hx rfl (hb hby d_method_2_code_40) ?_
    show own_At p e below m T4 43 #[.val (.ref a_EXPECTATION_FAILED)] [(.int (417 : Int32))] t
    exact k
  obtain ⟨fs, hr, hrun, hended, hW, hsame⟩ := X4.leave (v := some (.int (417 : Int32))) (fun h => by rw [Bd.returns] at h; cases h)
  refine hNG ⟨_, _, k5 _ ?_, hrun, hended, _, _, rfl, ?_, ⟨_, rfl⟩, hW, hsame.mono (by decide) (by decide)⟩
  · exact retOut X4 hx (t := .int) Bd.returns rfl (Or.inl ⟨rfl, Or.inl rfl, _, rfl⟩) (hb hby d_method_2_code_43) hr
  · show Q_f14 Z a_PATH_NOT_FOUND a_METHOD_NOT_ALLOWED a_UNSUPPORTED_MEDIA_TYPE a_EXPECTATION_FAILED a_NOT_IMPLEMENTED a_HTTP_VERSION_NOT_SUPPORTED a_MALFORMED_REQUEST a_INTERNAL_ERROR h0 n0 _ T4.heap _
    rw [e4]
    exact ⟨rfl, N0, rfl⟩
def Q_f12 (Z : State) (a_PATH_NOT_FOUND : Addr) (a_METHOD_NOT_ALLOWED : Addr) (a_UNSUPPORTED_MEDIA_TYPE : Addr) (a_EXPECTATION_FAILED : Addr) (a_NOT_IMPLEMENTED : Addr) (a_HTTP_VERSION_NOT_SUPPORTED : Addr) (a_MALFORMED_REQUEST : Addr) (a_INTERNAL_ERROR : Addr) (h0 : Heap) (n0 : Nat) (v : Option Value) (h : Heap) (L : List Loc) : Prop := v = some (.int (1 : Int32)) ∧ Fr n0 L ∧ h = h0
set_option maxRecDepth 65536 in
set_option maxHeartbeats 40000000 in
theorem rm_f12 (l : Launch) (Z : State) (a0 : Array Value) (hw : ∀ d ∈ tables_1, d.before a0 Z = true) (ws : List Jvm.Cond) (a_PATH_NOT_FOUND : Addr) (a_METHOD_NOT_ALLOWED : Addr) (a_UNSUPPORTED_MEDIA_TYPE : Addr) (a_EXPECTATION_FAILED : Addr) (a_NOT_IMPLEMENTED : Addr) (a_HTTP_VERSION_NOT_SUPPORTED : Addr) (a_MALFORMED_REQUEST : Addr) (a_INTERNAL_ERROR : Addr) (h0 : Heap) (n0 : Nat) (O0 : Old Z n0 h0) (hE : EV Z a_PATH_NOT_FOUND a_METHOD_NOT_ALLOWED a_UNSUPPORTED_MEDIA_TYPE a_EXPECTATION_FAILED a_NOT_IMPLEMENTED a_HTTP_VERSION_NOT_SUPPORTED a_MALFORMED_REQUEST a_INTERNAL_ERROR) :
    MetFree l own_m2 (head1 (Jvm.Cond.code own_m2 method_3_code 3 (some .boolean) :: ws) ({ frames := 1, cells := 0, slots := 0, locals := 16 } : Room)) (fun a U => a = #[(.int (417 : Int32))] ∧ Z.Warmed39 U.vm ∧ U.heap = h0) (fun _ _ _ _ _ => True) (fun _ U o U' => ∃ v L, o = .returned v ∧ Q_f12 Z a_PATH_NOT_FOUND a_METHOD_NOT_ALLOWED a_UNSUPPORTED_MEDIA_TYPE a_EXPECTATION_FAILED a_NOT_IMPLEMENTED a_HTTP_VERSION_NOT_SUPPORTED a_MALFORMED_REQUEST a_INTERNAL_ERROR h0 n0 v U'.heap L ∧ FrameEnd U o U' L ({ frames := 1, cells := 0, slots := 0, locals := 16 } : Room).cells ({ frames := 1, cells := 0, slots := 0, locals := 16 } : Room).slots) := by
  refine MetFree.of_bodySF (plainFor_of_name pn_com_example_kwota_kwota_server_ErrorReasonOfStatusPinLaw) hisR ?_
  intro p e s m args below meth c s₁ Bd hml0 hP hK
  obtain ⟨rfl, hZ, hh⟩ := hP
  have hx := Bd.exec
  have hby := Bd.bytes
  have hml : c.maxLocals = 3 := hml0
  have hown : s.vm.findClass "com/example/kwota/kwota/server/ErrorReasonOfStatusPinLaw" = some m.cls := findClass_of_methodNamed Bd.named
  have hnm := (name_of_methodNamed Bd.named Bd.method).1
  have X0 : Stand p l e ({ frames := 1, cells := 0, slots := 0, locals := 16 } : Room) s m #[(.int (417 : Int32))] below meth c s₁ [] 0 0 := Stand.of_body Bd
  have e0 : s₁.heap = h0 := by rw [← hh, Bd.state]; rfl
  have N0 := Fr.nil n0
  refine Classical.byContradiction fun hNG => ?_
  have K0 := Keep.refl h0 []
  have k0 : ∀ t, own_At p e below m s₁ 0 #[.val (.int (417 : Int32)), .unset, .unset] [] t → own_En p e below m s₁ #[(.int (417 : Int32))] 3 t := fun t k => castTop (ef_f12 m ((417 : Int32)) ) k
  obtain ⟨S_PATH_NOT_FOUND, E_PATH_NOT_FOUND, S_METHOD_NOT_ALLOWED, E_METHOD_NOT_ALLOWED, S_UNSUPPORTED_MEDIA_TYPE, E_UNSUPPORTED_MEDIA_TYPE, S_EXPECTATION_FAILED, E_EXPECTATION_FAILED, S_NOT_IMPLEMENTED, E_NOT_IMPLEMENTED, S_HTTP_VERSION_NOT_SUPPORTED, E_HTTP_VERSION_NOT_SUPPORTED, S_MALFORMED_REQUEST, E_MALFORMED_REQUEST, S_INTERNAL_ERROR, E_INTERNAL_ERROR, F_EXPECTATION_FAILED_ordinal, F_PATH_NOT_FOUND_ordinal, F_METHOD_NOT_ALLOWED_ordinal, F_UNSUPPORTED_MEDIA_TYPE_ordinal, F_MALFORMED_REQUEST_ordinal, F_NOT_IMPLEMENTED_ordinal, F_HTTP_VERSION_NOT_SUPPORTED_ordinal, F_INTERNAL_ERROR_ordinal⟩ := (id hE : EV Z a_PATH_NOT_FOUND a_METHOD_NOT_ALLOWED a_UNSUPPORTED_MEDIA_TYPE a_EXPECTATION_FAILED a_NOT_IMPLEMENTED a_HTTP_VERSION_NOT_SUPPORTED a_MALFORMED_REQUEST a_INTERNAL_ERROR)
  obtain ⟨_, _, ⟨T1, L1, k1, n1⟩, -, X1, ⟨Lc1, hQ1, l1, y1, z1⟩, st1⟩ := Jvm.LawKit.callS X0 hx (y := own_m0) hown (mvT hZ (own_w hw 27 rfl)) (mvT hZ (own_w hw 28 rfl)) (mvT hZ (own_w hw 3 rfl)) (mvT hZ (own_w hw 29 rfl)) (by decide) (backOf (W := 0) (rm_f13 l Z a0 hw []  _ _ _ _ _ _ _ _ h0 n0 O0 hE) hZ (own_w hw 29 rfl) (own_w hw 3 rfl) (by decide) (by decide)) (g := (mkF m 1 #[.val (.int (417 : Int32)), .unset, .unset] [(.int (417 : Int32))])) rfl (by rw [hml]; rfl) (argsL := [(.int (417 : Int32))]) (rest := []) (lenOf pd__I_Lcom_example_kwota_kwota_server_ErrorReason_ rfl) rfl (by show 2 * 0 + _ ≤ _; exact Nat.le_of_eq rfl) (hb hby d_method_3_code_1) (fun _ _ => ⟨rfl, e0, (by decide : 0 + 0 ≤ _), (by decide : 0 + 0 ≤ _)⟩)
  dsimp only [Pt.U, Pt.locs, Pt.cells, Pt.slots] at X1 l1 y1 z1 st1 hQ1
  subst l1 y1 z1
  obtain ⟨rfl, N1q, hp1⟩ := hQ1
  have N1 := Fr.app N0 N1q
  obtain ⟨_, _, ⟨T2, L2, k2, n2⟩, -, X2, ⟨Lc2, hQ2, l2, y2, z2⟩, st2⟩ := Jvm.LawKit.callS X1 hx (y := own_m1) hown (mvT hZ (own_w hw 20 rfl)) (mvT hZ (own_w hw 21 rfl)) (mvT hZ (own_w hw 22 rfl)) (mvT hZ (own_w hw 23 rfl)) (by decide) (backOf (W := 0) (rm_f14 l Z a0 hw []  _ _ _ _ _ _ _ _ h0 n0 O0 hE) hZ (own_w hw 23 rfl) (own_w hw 22 rfl) (by decide) (by decide)) (g := (mkF m 6 #[.val (.int (417 : Int32)), .val (.ref a_EXPECTATION_FAILED), .unset] [(.ref a_EXPECTATION_FAILED)])) rfl (by rw [hml]; rfl) (argsL := [(.ref a_EXPECTATION_FAILED)]) (rest := []) (lenOf pd__Lcom_example_kwota_kwota_server_ErrorReason__I rfl) rfl (by show 2 * 0 + _ ≤ _; exact Nat.le_of_eq rfl) (hb hby d_method_3_code_6) (fun _ _ => ⟨rfl, hp1, (by decide : 0 + 0 ≤ _), (by decide : 0 + 0 ≤ _)⟩)
  dsimp only [Pt.U, Pt.locs, Pt.cells, Pt.slots] at X2 l2 y2 z2 st2 hQ2
  subst l2 y2 z2
  obtain ⟨rfl, N2q, hp2⟩ := hQ2
  have N2 := Fr.app N1 N2q
  have k3 : ∀ t, own_At p e below m T2 22 #[.val (.int (417 : Int32)), .val (.ref a_EXPECTATION_FAILED), .val (.int (417 : Int32))] [(.int (1 : Int32))] t → own_En p e below m s₁ #[(.int (417 : Int32))] 3 t := by
    intro t k
    refine k0 t ?_
    refine XS.iloadN X0.here hx rfl (hb hby d_method_3_code_0) rfl ?_
    show own_At p e below m s₁ 1 #[.val (.int (417 : Int32)), .unset, .unset] [(.int (417 : Int32))] t
    refine st1 _ ?_
    show own_At p e below m T1 4 #[.val (.int (417 : Int32)), .unset, .unset] [(.ref a_EXPECTATION_FAILED)] t
    refine XS.astoreN X1.here hx rfl (hb hby d_method_3_code_4) rfl rfl (l' := #[.val (.int (417 : Int32)), .val (.ref a_EXPECTATION_FAILED), .unset]) rfl ?_
    show own_At p e below m T1 5 #[.val (.int (417 : Int32)), .val (.ref a_EXPECTATION_FAILED), .unset] [] t
    refine XS.aloadN X1.here hx rfl (hb hby d_method_3_code_5) rfl rfl ?_
    show own_At p e below m T1 6 #[.val (.int (417 : Int32)), .val (.ref a_EXPECTATION_FAILED), .unset] [(.ref a_EXPECTATION_FAILED)] t
    refine st2 _ ?_
    show own_At p e below m T2 9 #[.val (.int (417 : Int32)), .val (.ref a_EXPECTATION_FAILED), .unset] [(.int (417 : Int32))] t
    refine XS.istoreN X2.here hx rfl (hb hby d_method_3_code_9) rfl (l' := #[.val (.int (417 : Int32)), .val (.ref a_EXPECTATION_FAILED), .val (.int (417 : Int32))]) rfl ?_
    show own_At p e below m T2 10 #[.val (.int (417 : Int32)), .val (.ref a_EXPECTATION_FAILED), .val (.int (417 : Int32))] [] t
    refine XS.iloadN X2.here hx rfl (hb hby d_method_3_code_10) rfl ?_
    show own_At p e below m T2 11 #[.val (.int (417 : Int32)), .val (.ref a_EXPECTATION_FAILED), .val (.int (417 : Int32))] [(.int (417 : Int32))] t
    refine XS.ifYes X2.here hx rfl (pc0 := 11) (pc' := 16) rfl (hb hby d_method_3_code_11) rfl ((if0 _ _).trans (tlt (by decide : (0 : Int32) < (417 : Int32))).2.2.1) (by decide) (by decide) ?_
    show own_At p e below m T2 16 #[.val (.int (417 : Int32)), .val (.ref a_EXPECTATION_FAILED), .val (.int (417 : Int32))] [] t
    refine XS.iloadN X2.here hx rfl (hb hby d_method_3_code_16) rfl ?_
    show own_At p e below m T2 17 #[.val (.int (417 : Int32)), .val (.ref a_EXPECTATION_FAILED), .val (.int (417 : Int32))] [(.int (417 : Int32))] t
    refine XS.iloadN X2.here hx rfl (hb hby d_method_3_code_17) rfl ?_
    show own_At p e below m T2 18 #[.val (.int (417 : Int32)), .val (.ref a_EXPECTATION_FAILED), .val (.int (417 : Int32))] [(.int (417 : Int32)), (.int (417 : Int32))] t
    refine XS.icmpNo X2.here hx rfl (hb hby d_method_3_code_18) rfl (teq (by decide : (417 : Int32) = (417 : Int32))).2 ?_
    show own_At p e below m T2 21 #[.val (.int (417 : Int32)), .val (.ref a_EXPECTATION_FAILED), .val (.int (417 : Int32))] [] t
    refine XS.iconst X2.here hx rfl (hb hby d_method_3_code_21) ?_
    show own_At p e below m T2 22 #[.val (.int (417 : Int32)), .val (.ref a_EXPECTATION_FAILED), .val (.int (417 : Int32))] [(.int (1 : Int32))] t
    exact k
  obtain ⟨fs, hr, hrun, hended, hW, hsame⟩ := X2.leave (v := some (.int (1 : Int32))) (fun h => by rw [Bd.returns] at h; cases h)
  refine hNG ⟨_, _, k3 _ ?_, hrun, hended, _, _, rfl, ?_, ⟨_, rfl⟩, hW, hsame.mono (by decide) (by decide)⟩
  · exact retN X2 hx (t := .boolean) Bd.returns (by simp) (hb hby d_method_3_code_22) hr
  · show Q_f12 Z a_PATH_NOT_FOUND a_METHOD_NOT_ALLOWED a_UNSUPPORTED_MEDIA_TYPE a_EXPECTATION_FAILED a_NOT_IMPLEMENTED a_HTTP_VERSION_NOT_SUPPORTED a_MALFORMED_REQUEST a_INTERNAL_ERROR h0 n0 _ T2.heap _
    rw [hp2]
    exact ⟨rfl, N2, rfl⟩
theorem ef_f15 (m : MethodId) (x0 : Int32)  : entryFrame m #[(.int x0)] 3 = mkF m 0 #[.val (.int x0), .unset, .unset] [] := by first | (simp [entryFrame, mkF, argsToLocals, Value.category]; done) | rfl
theorem ef_f16 (m : MethodId) (x0 : Int32)  : entryFrame m #[(.int x0)] 1 = mkF m 0 #[.val (.int x0)] [] := by first | (simp [entryFrame, mkF, argsToLocals, Value.category]; done) | rfl
theorem d_prog_59_method_4_code_76 : decode prog_59_method_4_code 76 = .ok (.getstatic 76, 3) := by decide +kernel
theorem d_prog_59_method_4_code_79 : decode prog_59_method_4_code 79 = .ok (.areturn, 1) := by decide +kernel
def Q_f16 (Z : State) (a_PATH_NOT_FOUND : Addr) (a_METHOD_NOT_ALLOWED : Addr) (a_UNSUPPORTED_MEDIA_TYPE : Addr) (a_EXPECTATION_FAILED : Addr) (a_NOT_IMPLEMENTED : Addr) (a_HTTP_VERSION_NOT_SUPPORTED : Addr) (a_MALFORMED_REQUEST : Addr) (a_INTERNAL_ERROR : Addr) (h0 : Heap) (n0 : Nat) (v : Option Value) (h : Heap) (L : List Loc) : Prop := v = some (.ref a_NOT_IMPLEMENTED) ∧ Fr n0 L ∧ h = h0
set_option maxRecDepth 65536 in
set_option maxHeartbeats 40000000 in
theorem rm_f16 (l : Launch) (Z : State) (a0 : Array Value) (hw : ∀ d ∈ tables_1, d.before a0 Z = true) (ws : List Jvm.Cond) (a_PATH_NOT_FOUND : Addr) (a_METHOD_NOT_ALLOWED : Addr) (a_UNSUPPORTED_MEDIA_TYPE : Addr) (a_EXPECTATION_FAILED : Addr) (a_NOT_IMPLEMENTED : Addr) (a_HTTP_VERSION_NOT_SUPPORTED : Addr) (a_MALFORMED_REQUEST : Addr) (a_INTERNAL_ERROR : Addr) (h0 : Heap) (n0 : Nat) (O0 : Old Z n0 h0) (hE : EV Z a_PATH_NOT_FOUND a_METHOD_NOT_ALLOWED a_UNSUPPORTED_MEDIA_TYPE a_EXPECTATION_FAILED a_NOT_IMPLEMENTED a_HTTP_VERSION_NOT_SUPPORTED a_MALFORMED_REQUEST a_INTERNAL_ERROR) :
    MetFree l own_m0 (head1 (Jvm.Cond.code own_m0 prog_59_method_4_code 1 (some (.object "com/example/kwota/kwota/server/ErrorReason")) :: ws) ({ frames := 0, cells := 0, slots := 0, locals := 0 } : Room)) (fun a U => a = #[(.int (501 : Int32))] ∧ Z.Warmed39 U.vm ∧ U.heap = h0) (fun _ _ _ _ _ => True) (fun _ U o U' => ∃ v L, o = .returned v ∧ Q_f16 Z a_PATH_NOT_FOUND a_METHOD_NOT_ALLOWED a_UNSUPPORTED_MEDIA_TYPE a_EXPECTATION_FAILED a_NOT_IMPLEMENTED a_HTTP_VERSION_NOT_SUPPORTED a_MALFORMED_REQUEST a_INTERNAL_ERROR h0 n0 v U'.heap L ∧ FrameEnd U o U' L ({ frames := 0, cells := 0, slots := 0, locals := 0 } : Room).cells ({ frames := 0, cells := 0, slots := 0, locals := 0 } : Room).slots) := by
  refine MetFree.of_bodySF (plainFor_of_name pn_com_example_kwota_kwota_server_ErrorReason) hisR ?_
  intro p e s m args below meth c s₁ Bd hml0 hP hK
  obtain ⟨rfl, hZ, hh⟩ := hP
  have hx := Bd.exec
  have hby := Bd.bytes
  have hml : c.maxLocals = 1 := hml0
  have hown : s.vm.findClass "com/example/kwota/kwota/server/ErrorReason" = some m.cls := findClass_of_methodNamed Bd.named
  have hnm := (name_of_methodNamed Bd.named Bd.method).1
  have X0 : Stand p l e ({ frames := 0, cells := 0, slots := 0, locals := 0 } : Room) s m #[(.int (501 : Int32))] below meth c s₁ [] 0 0 := Stand.of_body Bd
  have e0 : s₁.heap = h0 := by rw [← hh, Bd.state]; rfl
  have N0 := Fr.nil n0
  refine Classical.byContradiction fun hNG => ?_
  have K0 := Keep.refl h0 []
  have k0 : ∀ t, own_At p e below m s₁ 0 #[.val (.int (501 : Int32))] [] t → own_En p e below m s₁ #[(.int (501 : Int32))] 1 t := fun t k => castTop (ef_f16 m ((501 : Int32)) ) k
  obtain ⟨S_PATH_NOT_FOUND, E_PATH_NOT_FOUND, S_METHOD_NOT_ALLOWED, E_METHOD_NOT_ALLOWED, S_UNSUPPORTED_MEDIA_TYPE, E_UNSUPPORTED_MEDIA_TYPE, S_EXPECTATION_FAILED, E_EXPECTATION_FAILED, S_NOT_IMPLEMENTED, E_NOT_IMPLEMENTED, S_HTTP_VERSION_NOT_SUPPORTED, E_HTTP_VERSION_NOT_SUPPORTED, S_MALFORMED_REQUEST, E_MALFORMED_REQUEST, S_INTERNAL_ERROR, E_INTERNAL_ERROR, F_EXPECTATION_FAILED_ordinal, F_PATH_NOT_FOUND_ordinal, F_METHOD_NOT_ALLOWED_ordinal, F_UNSUPPORTED_MEDIA_TYPE_ordinal, F_MALFORMED_REQUEST_ordinal, F_NOT_IMPLEMENTED_ordinal, F_HTTP_VERSION_NOT_SUPPORTED_ordinal, F_INTERNAL_ERROR_ordinal⟩ := (id hE : EV Z a_PATH_NOT_FOUND a_METHOD_NOT_ALLOWED a_UNSUPPORTED_MEDIA_TYPE a_EXPECTATION_FAILED a_NOT_IMPLEMENTED a_HTTP_VERSION_NOT_SUPPORTED a_MALFORMED_REQUEST a_INTERNAL_ERROR)
  obtain ⟨T1, X1, e1, st1⟩ := getS2 X0 hx hZ hown (host := "") (Or.inl (own_w hw 33 rfl)) Via.refl e0 (S_NOT_IMPLEMENTED.ext O0.2) (g := (mkF m 76 #[.val (.int (501 : Int32))] [])) rfl (hb hby d_prog_59_method_4_code_76)
  have k2 : ∀ t, own_At p e below m T1 79 #[.val (.int (501 : Int32))] [(.ref a_NOT_IMPLEMENTED)] t → own_En p e below m s₁ #[(.int (501 : Int32))] 1 t := by
    intro t k
    refine k0 t ?_
    refine XS.iloadN X0.here hx rfl (hb hby d_prog_59_method_4_code_0) rfl ?_
    show own_At p e below m s₁ 1 #[.val (.int (501 : Int32))] [(.int (501 : Int32))] t
    refine own_lsw X0.here hx rfl (pc0 := 1) (pc' := 76) rfl (hb hby d_prog_59_method_4_code_1) rfl (by decide) (o := 75) (by decide) (by decide) (by decide) ?_
    show own_At p e below m s₁ 76 #[.val (.int (501 : Int32))] [] t
    refine st1 _ ?_
    show own_At p e below m T1 79 #[.val (.int (501 : Int32))] [(.ref a_NOT_IMPLEMENTED)] t
    exact k
  obtain ⟨fs, hr, hrun, hended, hW, hsame⟩ := X1.leave (v := some (.ref a_NOT_IMPLEMENTED)) (fun h => by rw [Bd.returns] at h; cases h)
  refine hNG ⟨_, _, k2 _ ?_, hrun, hended, _, _, rfl, ?_, ⟨_, rfl⟩, hW, hsame.mono (by decide) (by decide)⟩
  · exact retOut X1 hx (t := (.object "com/example/kwota/kwota/server/ErrorReason")) Bd.returns rfl (Or.inr (Or.inr (Or.inr (Or.inr ⟨rfl, rfl, rfl⟩)))) (hb hby d_prog_59_method_4_code_79) hr
  · show Q_f16 Z a_PATH_NOT_FOUND a_METHOD_NOT_ALLOWED a_UNSUPPORTED_MEDIA_TYPE a_EXPECTATION_FAILED a_NOT_IMPLEMENTED a_HTTP_VERSION_NOT_SUPPORTED a_MALFORMED_REQUEST a_INTERNAL_ERROR h0 n0 _ T1.heap _
    rw [e1]
    exact ⟨rfl, N0, rfl⟩
theorem ef_f17 (m : MethodId) (x0 : Addr)  : entryFrame m #[(.ref x0)] 1 = mkF m 0 #[.val (.ref x0)] [] := by first | (simp [entryFrame, mkF, argsToLocals, Value.category]; done) | rfl
theorem d_method_2_code_51 : decode method_2_code 51 = .ok (.sipush 501, 3) := by decide +kernel
theorem d_method_2_code_54 : decode method_2_code 54 = .ok (.ireturn, 1) := by decide +kernel
def Q_f17 (Z : State) (a_PATH_NOT_FOUND : Addr) (a_METHOD_NOT_ALLOWED : Addr) (a_UNSUPPORTED_MEDIA_TYPE : Addr) (a_EXPECTATION_FAILED : Addr) (a_NOT_IMPLEMENTED : Addr) (a_HTTP_VERSION_NOT_SUPPORTED : Addr) (a_MALFORMED_REQUEST : Addr) (a_INTERNAL_ERROR : Addr) (h0 : Heap) (n0 : Nat) (v : Option Value) (h : Heap) (L : List Loc) : Prop := v = some (.int (501 : Int32)) ∧ Fr n0 L ∧ h = h0
set_option maxRecDepth 65536 in
set_option maxHeartbeats 40000000 in
theorem rm_f17 (l : Launch) (Z : State) (a0 : Array Value) (hw : ∀ d ∈ tables_1, d.before a0 Z = true) (ws : List Jvm.Cond) (a_PATH_NOT_FOUND : Addr) (a_METHOD_NOT_ALLOWED : Addr) (a_UNSUPPORTED_MEDIA_TYPE : Addr) (a_EXPECTATION_FAILED : Addr) (a_NOT_IMPLEMENTED : Addr) (a_HTTP_VERSION_NOT_SUPPORTED : Addr) (a_MALFORMED_REQUEST : Addr) (a_INTERNAL_ERROR : Addr) (h0 : Heap) (n0 : Nat) (O0 : Old Z n0 h0) (hE : EV Z a_PATH_NOT_FOUND a_METHOD_NOT_ALLOWED a_UNSUPPORTED_MEDIA_TYPE a_EXPECTATION_FAILED a_NOT_IMPLEMENTED a_HTTP_VERSION_NOT_SUPPORTED a_MALFORMED_REQUEST a_INTERNAL_ERROR) :
    MetFree l own_m1 (head1 (Jvm.Cond.code own_m1 method_2_code 1 (some .int) :: ws) ({ frames := 0, cells := 0, slots := 0, locals := 0 } : Room)) (fun a U => a = #[(.ref a_NOT_IMPLEMENTED)] ∧ Z.Warmed39 U.vm ∧ U.heap = h0) (fun _ _ _ _ _ => True) (fun _ U o U' => ∃ v L, o = .returned v ∧ Q_f17 Z a_PATH_NOT_FOUND a_METHOD_NOT_ALLOWED a_UNSUPPORTED_MEDIA_TYPE a_EXPECTATION_FAILED a_NOT_IMPLEMENTED a_HTTP_VERSION_NOT_SUPPORTED a_MALFORMED_REQUEST a_INTERNAL_ERROR h0 n0 v U'.heap L ∧ FrameEnd U o U' L ({ frames := 0, cells := 0, slots := 0, locals := 0 } : Room).cells ({ frames := 0, cells := 0, slots := 0, locals := 0 } : Room).slots) := by
  refine MetFree.of_bodySF (plainFor_of_name pn_com_example_kwota_kwota_server_ErrorReasonOfStatusPinLaw) hisR ?_
  intro p e s m args below meth c s₁ Bd hml0 hP hK
  obtain ⟨rfl, hZ, hh⟩ := hP
  have hx := Bd.exec
  have hby := Bd.bytes
  have hml : c.maxLocals = 1 := hml0
  have hown : s.vm.findClass "com/example/kwota/kwota/server/ErrorReasonOfStatusPinLaw" = some m.cls := findClass_of_methodNamed Bd.named
  have hnm := (name_of_methodNamed Bd.named Bd.method).1
  have X0 : Stand p l e ({ frames := 0, cells := 0, slots := 0, locals := 0 } : Room) s m #[(.ref a_NOT_IMPLEMENTED)] below meth c s₁ [] 0 0 := Stand.of_body Bd
  have e0 : s₁.heap = h0 := by rw [← hh, Bd.state]; rfl
  have N0 := Fr.nil n0
  refine Classical.byContradiction fun hNG => ?_
  have K0 := Keep.refl h0 []
  have k0 : ∀ t, own_At p e below m s₁ 0 #[.val (.ref a_NOT_IMPLEMENTED)] [] t → own_En p e below m s₁ #[(.ref a_NOT_IMPLEMENTED)] 1 t := fun t k => castTop (ef_f17 m a_NOT_IMPLEMENTED ) k
  obtain ⟨S_PATH_NOT_FOUND, E_PATH_NOT_FOUND, S_METHOD_NOT_ALLOWED, E_METHOD_NOT_ALLOWED, S_UNSUPPORTED_MEDIA_TYPE, E_UNSUPPORTED_MEDIA_TYPE, S_EXPECTATION_FAILED, E_EXPECTATION_FAILED, S_NOT_IMPLEMENTED, E_NOT_IMPLEMENTED, S_HTTP_VERSION_NOT_SUPPORTED, E_HTTP_VERSION_NOT_SUPPORTED, S_MALFORMED_REQUEST, E_MALFORMED_REQUEST, S_INTERNAL_ERROR, E_INTERNAL_ERROR, F_EXPECTATION_FAILED_ordinal, F_PATH_NOT_FOUND_ordinal, F_METHOD_NOT_ALLOWED_ordinal, F_UNSUPPORTED_MEDIA_TYPE_ordinal, F_MALFORMED_REQUEST_ordinal, F_NOT_IMPLEMENTED_ordinal, F_HTTP_VERSION_NOT_SUPPORTED_ordinal, F_INTERNAL_ERROR_ordinal⟩ := (id hE : EV Z a_PATH_NOT_FOUND a_METHOD_NOT_ALLOWED a_UNSUPPORTED_MEDIA_TYPE a_EXPECTATION_FAILED a_NOT_IMPLEMENTED a_HTTP_VERSION_NOT_SUPPORTED a_MALFORMED_REQUEST a_INTERNAL_ERROR)
  obtain ⟨T1, X1, e1, st1⟩ := getS2 X0 hx hZ hown (host := "") (Or.inl (own_w hw 2 rfl)) Via.refl e0 (S_PATH_NOT_FOUND.ext O0.2) (g := (mkF m 1 #[.val (.ref a_NOT_IMPLEMENTED)] [(.ref a_NOT_IMPLEMENTED)])) rfl (hb hby d_method_2_code_1)
  obtain ⟨T2, X2, e2, st2⟩ := getS2 X1 hx hZ hown (host := "") (Or.inl (own_w hw 6 rfl)) Via.refl e1 (S_METHOD_NOT_ALLOWED.ext O0.2) (g := (mkF m 12 #[.val (.ref a_NOT_IMPLEMENTED)] [(.ref a_NOT_IMPLEMENTED)])) rfl (hb hby d_method_2_code_12)
  obtain ⟨T3, X3, e3, st3⟩ := getS2 X2 hx hZ hown (host := "") (Or.inl (own_w hw 8 rfl)) Via.refl e2 (S_UNSUPPORTED_MEDIA_TYPE.ext O0.2) (g := (mkF m 23 #[.val (.ref a_NOT_IMPLEMENTED)] [(.ref a_NOT_IMPLEMENTED)])) rfl (hb hby d_method_2_code_23)
  obtain ⟨T4, X4, e4, st4⟩ := getS2 X3 hx hZ hown (host := "") (Or.inl (own_w hw 10 rfl)) Via.refl e3 (S_EXPECTATION_FAILED.ext O0.2) (g := (mkF m 34 #[.val (.ref a_NOT_IMPLEMENTED)] [(.ref a_NOT_IMPLEMENTED)])) rfl (hb hby d_method_2_code_34)
  obtain ⟨T5, X5, e5, st5⟩ := getS2 X4 hx hZ hown (host := "") (Or.inl (own_w hw 12 rfl)) Via.refl e4 (S_NOT_IMPLEMENTED.ext O0.2) (g := (mkF m 45 #[.val (.ref a_NOT_IMPLEMENTED)] [(.ref a_NOT_IMPLEMENTED)])) rfl (hb hby d_method_2_code_45)
  have k6 : ∀ t, own_At p e below m T5 54 #[.val (.ref a_NOT_IMPLEMENTED)] [(.int (501 : Int32))] t → own_En p e below m s₁ #[(.ref a_NOT_IMPLEMENTED)] 1 t := by
    intro t k
    refine k0 t ?_
    refine XS.aloadN X0.here hx rfl (hb hby d_method_2_code_0) rfl rfl ?_
    show own_At p e below m s₁ 1 #[.val (.ref a_NOT_IMPLEMENTED)] [(.ref a_NOT_IMPLEMENTED)] t
    refine st1 _ ?_
    show own_At p e below m T1 4 #[.val (.ref a_NOT_IMPLEMENTED)] [(.ref a_PATH_NOT_FOUND), (.ref a_NOT_IMPLEMENTED)] t
    refine Jvm.RoadKit.acmp (g := (mkF m 4 #[.val (.ref a_NOT_IMPLEMENTED)] [(.ref a_PATH_NOT_FOUND), (.ref a_NOT_IMPLEMENTED)])) X1 hx rfl rfl rfl (pc0 := 4) (pc' := 11) (same := false) rfl (hb hby d_method_2_code_4) rfl (decide_eq_false fun q => (F_NOT_IMPLEMENTED_ordinal.ne F_PATH_NOT_FOUND_ordinal (fun q => absurd (Value.int.inj q) (by decide))) (Value.ref.inj q)) (by decide) (by decide) ?_
    show own_At p e below m T1 11 #[.val (.ref a_NOT_IMPLEMENTED)] [] t
    refine XS.aloadN X1.here hx rfl (hb hby d_method_2_code_11) rfl rfl ?_
    show own_At p e below m T1 12 #[.val (.ref a_NOT_IMPLEMENTED)] [(.ref a_NOT_IMPLEMENTED)] t
    refine st2 _ ?_
    show own_At p e below m T2 15 #[.val (.ref a_NOT_IMPLEMENTED)] [(.ref a_METHOD_NOT_ALLOWED), (.ref a_NOT_IMPLEMENTED)] t
    refine Jvm.RoadKit.acmp (g := (mkF m 15 #[.val (.ref a_NOT_IMPLEMENTED)] [(.ref a_METHOD_NOT_ALLOWED), (.ref a_NOT_IMPLEMENTED)])) X2 hx rfl rfl rfl (pc0 := 15) (pc' := 22) (same := false) rfl (hb hby d_method_2_code_15) rfl (decide_eq_false fun q => (F_NOT_IMPLEMENTED_ordinal.ne F_METHOD_NOT_ALLOWED_ordinal (fun q => absurd (Value.int.inj q) (by decide))) (Value.ref.inj q)) (by decide) (by decide) ?_
    show own_At p e below m T2 22 #[.val (.ref a_NOT_IMPLEMENTED)] [] t
    refine XS.aloadN X2.here hx rfl (hb hby d_method_2_code_22) rfl rfl ?_
    show own_At p e below m T2 23 #[.val (.ref a_NOT_IMPLEMENTED)] [(.ref a_NOT_IMPLEMENTED)] t
    refine st3 _ ?_
    show own_At p e below m T3 26 #[.val (.ref a_NOT_IMPLEMENTED)] [(.ref a_UNSUPPORTED_MEDIA_TYPE), (.ref a_NOT_IMPLEMENTED)] t
    refine Jvm.RoadKit.acmp (g := (mkF m 26 #[.val (.ref a_NOT_IMPLEMENTED)] [(.ref a_UNSUPPORTED_MEDIA_TYPE), (.ref a_NOT_IMPLEMENTED)])) X3 hx rfl rfl rfl (pc0 := 26) (pc' := 33) (same := false) rfl (hb hby d_method_2_code_26) rfl (decide_eq_false fun q => (F_NOT_IMPLEMENTED_ordinal.ne F_UNSUPPORTED_MEDIA_TYPE_ordinal (fun q => absurd (Value.int.inj q) (by decide))) (Value.ref.inj q)) (by decide) (by decide) ?_
    show own_At p e below m T3 33 #[.val (.ref a_NOT_IMPLEMENTED)] [] t
    refine XS.aloadN X3.here hx rfl (hb hby d_method_2_code_33) rfl rfl ?_
    show own_At p e below m T3 34 #[.val (.ref a_NOT_IMPLEMENTED)] [(.ref a_NOT_IMPLEMENTED)] t
    refine st4 _ ?_
    show own_At p e below m T4 37 #[.val (.ref a_NOT_IMPLEMENTED)] [(.ref a_EXPECTATION_FAILED), (.ref a_NOT_IMPLEMENTED)] t
    refine Jvm.RoadKit.acmp (g := (mkF m 37 #[.val (.ref a_NOT_IMPLEMENTED)] [(.ref a_EXPECTATION_FAILED), (.ref a_NOT_IMPLEMENTED)])) X4 hx rfl rfl rfl (pc0 := 37) (pc' := 44) (same := false) rfl (hb hby d_method_2_code_37) rfl (decide_eq_false fun q => (F_NOT_IMPLEMENTED_ordinal.ne F_EXPECTATION_FAILED_ordinal (fun q => absurd (Value.int.inj q) (by decide))) (Value.ref.inj q)) (by decide) (by decide) ?_
    show own_At p e below m T4 44 #[.val (.ref a_NOT_IMPLEMENTED)] [] t
    refine XS.aloadN X4.here hx rfl (hb hby d_method_2_code_44) rfl rfl ?_
    show own_At p e below m T4 45 #[.val (.ref a_NOT_IMPLEMENTED)] [(.ref a_NOT_IMPLEMENTED)] t
    refine st5 _ ?_
    show own_At p e below m T5 48 #[.val (.ref a_NOT_IMPLEMENTED)] [(.ref a_NOT_IMPLEMENTED), (.ref a_NOT_IMPLEMENTED)] t
    refine Jvm.RoadKit.acmp (g := (mkF m 48 #[.val (.ref a_NOT_IMPLEMENTED)] [(.ref a_NOT_IMPLEMENTED), (.ref a_NOT_IMPLEMENTED)])) X5 hx rfl rfl rfl (pc0 := 48) (pc' := 51) (same := true) rfl (hb hby d_method_2_code_48) rfl (decide_eq_true rfl) (by decide) (by decide) ?_
    show own_At p e below m T5 51 #[.val (.ref a_NOT_IMPLEMENTED)] [] t
    refine XS.sipush X5.here hx rfl (hb hby d_method_2_code_51) ?_
    show own_At p e below m T5 54 #[.val (.ref a_NOT_IMPLEMENTED)] [(.int (501 : Int32))] t
    exact k
  obtain ⟨fs, hr, hrun, hended, hW, hsame⟩ := X5.leave (v := some (.int (501 : Int32))) (fun h => by rw [Bd.returns] at h; cases h)
  refine hNG ⟨_, _, k6 _ ?_, hrun, hended, _, _, rfl, ?_, ⟨_, rfl⟩, hW, hsame.mono (by decide) (by decide)⟩
  · exact retOut X5 hx (t := .int) Bd.returns rfl (Or.inl ⟨rfl, Or.inl rfl, _, rfl⟩) (hb hby d_method_2_code_54) hr
  · show Q_f17 Z a_PATH_NOT_FOUND a_METHOD_NOT_ALLOWED a_UNSUPPORTED_MEDIA_TYPE a_EXPECTATION_FAILED a_NOT_IMPLEMENTED a_HTTP_VERSION_NOT_SUPPORTED a_MALFORMED_REQUEST a_INTERNAL_ERROR h0 n0 _ T5.heap _
    rw [e5]
    exact ⟨rfl, N0, rfl⟩
def Q_f15 (Z : State) (a_PATH_NOT_FOUND : Addr) (a_METHOD_NOT_ALLOWED : Addr) (a_UNSUPPORTED_MEDIA_TYPE : Addr) (a_EXPECTATION_FAILED : Addr) (a_NOT_IMPLEMENTED : Addr) (a_HTTP_VERSION_NOT_SUPPORTED : Addr) (a_MALFORMED_REQUEST : Addr) (a_INTERNAL_ERROR : Addr) (h0 : Heap) (n0 : Nat) (v : Option Value) (h : Heap) (L : List Loc) : Prop := v = some (.int (1 : Int32)) ∧ Fr n0 L ∧ h = h0
set_option maxRecDepth 65536 in
set_option maxHeartbeats 40000000 in
theorem rm_f15 (l : Launch) (Z : State) (a0 : Array Value) (hw : ∀ d ∈ tables_1, d.before a0 Z = true) (ws : List Jvm.Cond) (a_PATH_NOT_FOUND : Addr) (a_METHOD_NOT_ALLOWED : Addr) (a_UNSUPPORTED_MEDIA_TYPE : Addr) (a_EXPECTATION_FAILED : Addr) (a_NOT_IMPLEMENTED : Addr) (a_HTTP_VERSION_NOT_SUPPORTED : Addr) (a_MALFORMED_REQUEST : Addr) (a_INTERNAL_ERROR : Addr) (h0 : Heap) (n0 : Nat) (O0 : Old Z n0 h0) (hE : EV Z a_PATH_NOT_FOUND a_METHOD_NOT_ALLOWED a_UNSUPPORTED_MEDIA_TYPE a_EXPECTATION_FAILED a_NOT_IMPLEMENTED a_HTTP_VERSION_NOT_SUPPORTED a_MALFORMED_REQUEST a_INTERNAL_ERROR) :
    MetFree l own_m2 (head1 (Jvm.Cond.code own_m2 method_3_code 3 (some .boolean) :: ws) ({ frames := 1, cells := 0, slots := 0, locals := 16 } : Room)) (fun a U => a = #[(.int (501 : Int32))] ∧ Z.Warmed39 U.vm ∧ U.heap = h0) (fun _ _ _ _ _ => True) (fun _ U o U' => ∃ v L, o = .returned v ∧ Q_f15 Z a_PATH_NOT_FOUND a_METHOD_NOT_ALLOWED a_UNSUPPORTED_MEDIA_TYPE a_EXPECTATION_FAILED a_NOT_IMPLEMENTED a_HTTP_VERSION_NOT_SUPPORTED a_MALFORMED_REQUEST a_INTERNAL_ERROR h0 n0 v U'.heap L ∧ FrameEnd U o U' L ({ frames := 1, cells := 0, slots := 0, locals := 16 } : Room).cells ({ frames := 1, cells := 0, slots := 0, locals := 16 } : Room).slots) := by
  refine MetFree.of_bodySF (plainFor_of_name pn_com_example_kwota_kwota_server_ErrorReasonOfStatusPinLaw) hisR ?_
  intro p e s m args below meth c s₁ Bd hml0 hP hK
  obtain ⟨rfl, hZ, hh⟩ := hP
  have hx := Bd.exec
  have hby := Bd.bytes
  have hml : c.maxLocals = 3 := hml0
  have hown : s.vm.findClass "com/example/kwota/kwota/server/ErrorReasonOfStatusPinLaw" = some m.cls := findClass_of_methodNamed Bd.named
  have hnm := (name_of_methodNamed Bd.named Bd.method).1
  have X0 : Stand p l e ({ frames := 1, cells := 0, slots := 0, locals := 16 } : Room) s m #[(.int (501 : Int32))] below meth c s₁ [] 0 0 := Stand.of_body Bd
  have e0 : s₁.heap = h0 := by rw [← hh, Bd.state]; rfl
  have N0 := Fr.nil n0
  refine Classical.byContradiction fun hNG => ?_
  have K0 := Keep.refl h0 []
  have k0 : ∀ t, own_At p e below m s₁ 0 #[.val (.int (501 : Int32)), .unset, .unset] [] t → own_En p e below m s₁ #[(.int (501 : Int32))] 3 t := fun t k => castTop (ef_f15 m ((501 : Int32)) ) k
  obtain ⟨S_PATH_NOT_FOUND, E_PATH_NOT_FOUND, S_METHOD_NOT_ALLOWED, E_METHOD_NOT_ALLOWED, S_UNSUPPORTED_MEDIA_TYPE, E_UNSUPPORTED_MEDIA_TYPE, S_EXPECTATION_FAILED, E_EXPECTATION_FAILED, S_NOT_IMPLEMENTED, E_NOT_IMPLEMENTED, S_HTTP_VERSION_NOT_SUPPORTED, E_HTTP_VERSION_NOT_SUPPORTED, S_MALFORMED_REQUEST, E_MALFORMED_REQUEST, S_INTERNAL_ERROR, E_INTERNAL_ERROR, F_EXPECTATION_FAILED_ordinal, F_PATH_NOT_FOUND_ordinal, F_METHOD_NOT_ALLOWED_ordinal, F_UNSUPPORTED_MEDIA_TYPE_ordinal, F_MALFORMED_REQUEST_ordinal, F_NOT_IMPLEMENTED_ordinal, F_HTTP_VERSION_NOT_SUPPORTED_ordinal, F_INTERNAL_ERROR_ordinal⟩ := (id hE : EV Z a_PATH_NOT_FOUND a_METHOD_NOT_ALLOWED a_UNSUPPORTED_MEDIA_TYPE a_EXPECTATION_FAILED a_NOT_IMPLEMENTED a_HTTP_VERSION_NOT_SUPPORTED a_MALFORMED_REQUEST a_INTERNAL_ERROR)
  obtain ⟨_, _, ⟨T1, L1, k1, n1⟩, -, X1, ⟨Lc1, hQ1, l1, y1, z1⟩, st1⟩ := Jvm.LawKit.callS X0 hx (y := own_m0) hown (mvT hZ (own_w hw 27 rfl)) (mvT hZ (own_w hw 28 rfl)) (mvT hZ (own_w hw 3 rfl)) (mvT hZ (own_w hw 29 rfl)) (by decide) (backOf (W := 0) (rm_f16 l Z a0 hw []  _ _ _ _ _ _ _ _ h0 n0 O0 hE) hZ (own_w hw 29 rfl) (own_w hw 3 rfl) (by decide) (by decide)) (g := (mkF m 1 #[.val (.int (501 : Int32)), .unset, .unset] [(.int (501 : Int32))])) rfl (by rw [hml]; rfl) (argsL := [(.int (501 : Int32))]) (rest := []) (lenOf pd__I_Lcom_example_kwota_kwota_server_ErrorReason_ rfl) rfl (by show 2 * 0 + _ ≤ _; exact Nat.le_of_eq rfl) (hb hby d_method_3_code_1) (fun _ _ => ⟨rfl, e0, (by decide : 0 + 0 ≤ _), (by decide : 0 + 0 ≤ _)⟩)
  dsimp only [Pt.U, Pt.locs, Pt.cells, Pt.slots] at X1 l1 y1 z1 st1 hQ1
  subst l1 y1 z1
  obtain ⟨rfl, N1q, hp1⟩ := hQ1
  have N1 := Fr.app N0 N1q
  obtain ⟨_, _, ⟨T2, L2, k2, n2⟩, -, X2, ⟨Lc2, hQ2, l2, y2, z2⟩, st2⟩ := Jvm.LawKit.callS X1 hx (y := own_m1) hown (mvT hZ (own_w hw 20 rfl)) (mvT hZ (own_w hw 21 rfl)) (mvT hZ (own_w hw 22 rfl)) (mvT hZ (own_w hw 23 rfl)) (by decide) (backOf (W := 0) (rm_f17 l Z a0 hw []  _ _ _ _ _ _ _ _ h0 n0 O0 hE) hZ (own_w hw 23 rfl) (own_w hw 22 rfl) (by decide) (by decide)) (g := (mkF m 6 #[.val (.int (501 : Int32)), .val (.ref a_NOT_IMPLEMENTED), .unset] [(.ref a_NOT_IMPLEMENTED)])) rfl (by rw [hml]; rfl) (argsL := [(.ref a_NOT_IMPLEMENTED)]) (rest := []) (lenOf pd__Lcom_example_kwota_kwota_server_ErrorReason__I rfl) rfl (by show 2 * 0 + _ ≤ _; exact Nat.le_of_eq rfl) (hb hby d_method_3_code_6) (fun _ _ => ⟨rfl, hp1, (by decide : 0 + 0 ≤ _), (by decide : 0 + 0 ≤ _)⟩)
  dsimp only [Pt.U, Pt.locs, Pt.cells, Pt.slots] at X2 l2 y2 z2 st2 hQ2
  subst l2 y2 z2
  obtain ⟨rfl, N2q, hp2⟩ := hQ2
  have N2 := Fr.app N1 N2q
  have k3 : ∀ t, own_At p e below m T2 22 #[.val (.int (501 : Int32)), .val (.ref a_NOT_IMPLEMENTED), .val (.int (501 : Int32))] [(.int (1 : Int32))] t → own_En p e below m s₁ #[(.int (501 : Int32))] 3 t := by
    intro t k
    refine k0 t ?_
    refine XS.iloadN X0.here hx rfl (hb hby d_method_3_code_0) rfl ?_
    show own_At p e below m s₁ 1 #[.val (.int (501 : Int32)), .unset, .unset] [(.int (501 : Int32))] t
    refine st1 _ ?_
    show own_At p e below m T1 4 #[.val (.int (501 : Int32)), .unset, .unset] [(.ref a_NOT_IMPLEMENTED)] t
    refine XS.astoreN X1.here hx rfl (hb hby d_method_3_code_4) rfl rfl (l' := #[.val (.int (501 : Int32)), .val (.ref a_NOT_IMPLEMENTED), .unset]) rfl ?_
    show own_At p e below m T1 5 #[.val (.int (501 : Int32)), .val (.ref a_NOT_IMPLEMENTED), .unset] [] t
    refine XS.aloadN X1.here hx rfl (hb hby d_method_3_code_5) rfl rfl ?_
    show own_At p e below m T1 6 #[.val (.int (501 : Int32)), .val (.ref a_NOT_IMPLEMENTED), .unset] [(.ref a_NOT_IMPLEMENTED)] t
    refine st2 _ ?_
    show own_At p e below m T2 9 #[.val (.int (501 : Int32)), .val (.ref a_NOT_IMPLEMENTED), .unset] [(.int (501 : Int32))] t
    refine XS.istoreN X2.here hx rfl (hb hby d_method_3_code_9) rfl (l' := #[.val (.int (501 : Int32)), .val (.ref a_NOT_IMPLEMENTED), .val (.int (501 : Int32))]) rfl ?_
    show own_At p e below m T2 10 #[.val (.int (501 : Int32)), .val (.ref a_NOT_IMPLEMENTED), .val (.int (501 : Int32))] [] t
    refine XS.iloadN X2.here hx rfl (hb hby d_method_3_code_10) rfl ?_
    show own_At p e below m T2 11 #[.val (.int (501 : Int32)), .val (.ref a_NOT_IMPLEMENTED), .val (.int (501 : Int32))] [(.int (501 : Int32))] t
    refine XS.ifYes X2.here hx rfl (pc0 := 11) (pc' := 16) rfl (hb hby d_method_3_code_11) rfl ((if0 _ _).trans (tlt (by decide : (0 : Int32) < (501 : Int32))).2.2.1) (by decide) (by decide) ?_
    show own_At p e below m T2 16 #[.val (.int (501 : Int32)), .val (.ref a_NOT_IMPLEMENTED), .val (.int (501 : Int32))] [] t
    refine XS.iloadN X2.here hx rfl (hb hby d_method_3_code_16) rfl ?_
    show own_At p e below m T2 17 #[.val (.int (501 : Int32)), .val (.ref a_NOT_IMPLEMENTED), .val (.int (501 : Int32))] [(.int (501 : Int32))] t
    refine XS.iloadN X2.here hx rfl (hb hby d_method_3_code_17) rfl ?_
    show own_At p e below m T2 18 #[.val (.int (501 : Int32)), .val (.ref a_NOT_IMPLEMENTED), .val (.int (501 : Int32))] [(.int (501 : Int32)), (.int (501 : Int32))] t
    refine XS.icmpNo X2.here hx rfl (hb hby d_method_3_code_18) rfl (teq (by decide : (501 : Int32) = (501 : Int32))).2 ?_
    show own_At p e below m T2 21 #[.val (.int (501 : Int32)), .val (.ref a_NOT_IMPLEMENTED), .val (.int (501 : Int32))] [] t
    refine XS.iconst X2.here hx rfl (hb hby d_method_3_code_21) ?_
    show own_At p e below m T2 22 #[.val (.int (501 : Int32)), .val (.ref a_NOT_IMPLEMENTED), .val (.int (501 : Int32))] [(.int (1 : Int32))] t
    exact k
  obtain ⟨fs, hr, hrun, hended, hW, hsame⟩ := X2.leave (v := some (.int (1 : Int32))) (fun h => by rw [Bd.returns] at h; cases h)
  refine hNG ⟨_, _, k3 _ ?_, hrun, hended, _, _, rfl, ?_, ⟨_, rfl⟩, hW, hsame.mono (by decide) (by decide)⟩
  · exact retN X2 hx (t := .boolean) Bd.returns (by simp) (hb hby d_method_3_code_22) hr
  · show Q_f15 Z a_PATH_NOT_FOUND a_METHOD_NOT_ALLOWED a_UNSUPPORTED_MEDIA_TYPE a_EXPECTATION_FAILED a_NOT_IMPLEMENTED a_HTTP_VERSION_NOT_SUPPORTED a_MALFORMED_REQUEST a_INTERNAL_ERROR h0 n0 _ T2.heap _
    rw [hp2]
    exact ⟨rfl, N2, rfl⟩
theorem ef_f18 (m : MethodId) (x0 : Int32)  : entryFrame m #[(.int x0)] 3 = mkF m 0 #[.val (.int x0), .unset, .unset] [] := by first | (simp [entryFrame, mkF, argsToLocals, Value.category]; done) | rfl
theorem ef_f19 (m : MethodId) (x0 : Int32)  : entryFrame m #[(.int x0)] 1 = mkF m 0 #[.val (.int x0)] [] := by first | (simp [entryFrame, mkF, argsToLocals, Value.category]; done) | rfl
theorem d_prog_59_method_4_code_80 : decode prog_59_method_4_code 80 = .ok (.getstatic 82, 3) := by decide +kernel
theorem d_prog_59_method_4_code_83 : decode prog_59_method_4_code 83 = .ok (.areturn, 1) := by decide +kernel
def Q_f19 (Z : State) (a_PATH_NOT_FOUND : Addr) (a_METHOD_NOT_ALLOWED : Addr) (a_UNSUPPORTED_MEDIA_TYPE : Addr) (a_EXPECTATION_FAILED : Addr) (a_NOT_IMPLEMENTED : Addr) (a_HTTP_VERSION_NOT_SUPPORTED : Addr) (a_MALFORMED_REQUEST : Addr) (a_INTERNAL_ERROR : Addr) (h0 : Heap) (n0 : Nat) (v : Option Value) (h : Heap) (L : List Loc) : Prop := v = some (.ref a_HTTP_VERSION_NOT_SUPPORTED) ∧ Fr n0 L ∧ h = h0
set_option maxRecDepth 65536 in
set_option maxHeartbeats 40000000 in
theorem rm_f19 (l : Launch) (Z : State) (a0 : Array Value) (hw : ∀ d ∈ tables_1, d.before a0 Z = true) (ws : List Jvm.Cond) (a_PATH_NOT_FOUND : Addr) (a_METHOD_NOT_ALLOWED : Addr) (a_UNSUPPORTED_MEDIA_TYPE : Addr) (a_EXPECTATION_FAILED : Addr) (a_NOT_IMPLEMENTED : Addr) (a_HTTP_VERSION_NOT_SUPPORTED : Addr) (a_MALFORMED_REQUEST : Addr) (a_INTERNAL_ERROR : Addr) (h0 : Heap) (n0 : Nat) (O0 : Old Z n0 h0) (hE : EV Z a_PATH_NOT_FOUND a_METHOD_NOT_ALLOWED a_UNSUPPORTED_MEDIA_TYPE a_EXPECTATION_FAILED a_NOT_IMPLEMENTED a_HTTP_VERSION_NOT_SUPPORTED a_MALFORMED_REQUEST a_INTERNAL_ERROR) :
    MetFree l own_m0 (head1 (Jvm.Cond.code own_m0 prog_59_method_4_code 1 (some (.object "com/example/kwota/kwota/server/ErrorReason")) :: ws) ({ frames := 0, cells := 0, slots := 0, locals := 0 } : Room)) (fun a U => a = #[(.int (505 : Int32))] ∧ Z.Warmed39 U.vm ∧ U.heap = h0) (fun _ _ _ _ _ => True) (fun _ U o U' => ∃ v L, o = .returned v ∧ Q_f19 Z a_PATH_NOT_FOUND a_METHOD_NOT_ALLOWED a_UNSUPPORTED_MEDIA_TYPE a_EXPECTATION_FAILED a_NOT_IMPLEMENTED a_HTTP_VERSION_NOT_SUPPORTED a_MALFORMED_REQUEST a_INTERNAL_ERROR h0 n0 v U'.heap L ∧ FrameEnd U o U' L ({ frames := 0, cells := 0, slots := 0, locals := 0 } : Room).cells ({ frames := 0, cells := 0, slots := 0, locals := 0 } : Room).slots) := by
  refine MetFree.of_bodySF (plainFor_of_name pn_com_example_kwota_kwota_server_ErrorReason) hisR ?_
  intro p e s m args below meth c s₁ Bd hml0 hP hK
  obtain ⟨rfl, hZ, hh⟩ := hP
  have hx := Bd.exec
  have hby := Bd.bytes
  have hml : c.maxLocals = 1 := hml0
  have hown : s.vm.findClass "com/example/kwota/kwota/server/ErrorReason" = some m.cls := findClass_of_methodNamed Bd.named
  have hnm := (name_of_methodNamed Bd.named Bd.method).1
  have X0 : Stand p l e ({ frames := 0, cells := 0, slots := 0, locals := 0 } : Room) s m #[(.int (505 : Int32))] below meth c s₁ [] 0 0 := Stand.of_body Bd
  have e0 : s₁.heap = h0 := by rw [← hh, Bd.state]; rfl
  have N0 := Fr.nil n0
  refine Classical.byContradiction fun hNG => ?_
  have K0 := Keep.refl h0 []
  have k0 : ∀ t, own_At p e below m s₁ 0 #[.val (.int (505 : Int32))] [] t → own_En p e below m s₁ #[(.int (505 : Int32))] 1 t := fun t k => castTop (ef_f19 m ((505 : Int32)) ) k
  obtain ⟨S_PATH_NOT_FOUND, E_PATH_NOT_FOUND, S_METHOD_NOT_ALLOWED, E_METHOD_NOT_ALLOWED, S_UNSUPPORTED_MEDIA_TYPE, E_UNSUPPORTED_MEDIA_TYPE, S_EXPECTATION_FAILED, E_EXPECTATION_FAILED, S_NOT_IMPLEMENTED, E_NOT_IMPLEMENTED, S_HTTP_VERSION_NOT_SUPPORTED, E_HTTP_VERSION_NOT_SUPPORTED, S_MALFORMED_REQUEST, E_MALFORMED_REQUEST, S_INTERNAL_ERROR, E_INTERNAL_ERROR, F_EXPECTATION_FAILED_ordinal, F_PATH_NOT_FOUND_ordinal, F_METHOD_NOT_ALLOWED_ordinal, F_UNSUPPORTED_MEDIA_TYPE_ordinal, F_MALFORMED_REQUEST_ordinal, F_NOT_IMPLEMENTED_ordinal, F_HTTP_VERSION_NOT_SUPPORTED_ordinal, F_INTERNAL_ERROR_ordinal⟩ := (id hE : EV Z a_PATH_NOT_FOUND a_METHOD_NOT_ALLOWED a_UNSUPPORTED_MEDIA_TYPE a_EXPECTATION_FAILED a_NOT_IMPLEMENTED a_HTTP_VERSION_NOT_SUPPORTED a_MALFORMED_REQUEST a_INTERNAL_ERROR)
  obtain ⟨T1, X1, e1, st1⟩ := getS2 X0 hx hZ hown (host := "") (Or.inl (own_w hw 35 rfl)) Via.refl e0 (S_HTTP_VERSION_NOT_SUPPORTED.ext O0.2) (g := (mkF m 80 #[.val (.int (505 : Int32))] [])) rfl (hb hby d_prog_59_method_4_code_80)
  have k2 : ∀ t, own_At p e below m T1 83 #[.val (.int (505 : Int32))] [(.ref a_HTTP_VERSION_NOT_SUPPORTED)] t → own_En p e below m s₁ #[(.int (505 : Int32))] 1 t := by
    intro t k
    refine k0 t ?_
    refine XS.iloadN X0.here hx rfl (hb hby d_prog_59_method_4_code_0) rfl ?_
    show own_At p e below m s₁ 1 #[.val (.int (505 : Int32))] [(.int (505 : Int32))] t
    refine own_lsw X0.here hx rfl (pc0 := 1) (pc' := 80) rfl (hb hby d_prog_59_method_4_code_1) rfl (by decide) (o := 79) (by decide) (by decide) (by decide) ?_
    show own_At p e below m s₁ 80 #[.val (.int (505 : Int32))] [] t
    refine st1 _ ?_
    show own_At p e below m T1 83 #[.val (.int (505 : Int32))] [(.ref a_HTTP_VERSION_NOT_SUPPORTED)] t
    exact k
  obtain ⟨fs, hr, hrun, hended, hW, hsame⟩ := X1.leave (v := some (.ref a_HTTP_VERSION_NOT_SUPPORTED)) (fun h => by rw [Bd.returns] at h; cases h)
  refine hNG ⟨_, _, k2 _ ?_, hrun, hended, _, _, rfl, ?_, ⟨_, rfl⟩, hW, hsame.mono (by decide) (by decide)⟩
  · exact retOut X1 hx (t := (.object "com/example/kwota/kwota/server/ErrorReason")) Bd.returns rfl (Or.inr (Or.inr (Or.inr (Or.inr ⟨rfl, rfl, rfl⟩)))) (hb hby d_prog_59_method_4_code_83) hr
  · show Q_f19 Z a_PATH_NOT_FOUND a_METHOD_NOT_ALLOWED a_UNSUPPORTED_MEDIA_TYPE a_EXPECTATION_FAILED a_NOT_IMPLEMENTED a_HTTP_VERSION_NOT_SUPPORTED a_MALFORMED_REQUEST a_INTERNAL_ERROR h0 n0 _ T1.heap _
    rw [e1]
    exact ⟨rfl, N0, rfl⟩
theorem ef_f20 (m : MethodId) (x0 : Addr)  : entryFrame m #[(.ref x0)] 1 = mkF m 0 #[.val (.ref x0)] [] := by first | (simp [entryFrame, mkF, argsToLocals, Value.category]; done) | rfl
theorem d_method_2_code_62 : decode method_2_code 62 = .ok (.sipush 505, 3) := by decide +kernel
theorem d_method_2_code_65 : decode method_2_code 65 = .ok (.ireturn, 1) := by decide +kernel
def Q_f20 (Z : State) (a_PATH_NOT_FOUND : Addr) (a_METHOD_NOT_ALLOWED : Addr) (a_UNSUPPORTED_MEDIA_TYPE : Addr) (a_EXPECTATION_FAILED : Addr) (a_NOT_IMPLEMENTED : Addr) (a_HTTP_VERSION_NOT_SUPPORTED : Addr) (a_MALFORMED_REQUEST : Addr) (a_INTERNAL_ERROR : Addr) (h0 : Heap) (n0 : Nat) (v : Option Value) (h : Heap) (L : List Loc) : Prop := v = some (.int (505 : Int32)) ∧ Fr n0 L ∧ h = h0
set_option maxRecDepth 65536 in
set_option maxHeartbeats 40000000 in
theorem rm_f20 (l : Launch) (Z : State) (a0 : Array Value) (hw : ∀ d ∈ tables_1, d.before a0 Z = true) (ws : List Jvm.Cond) (a_PATH_NOT_FOUND : Addr) (a_METHOD_NOT_ALLOWED : Addr) (a_UNSUPPORTED_MEDIA_TYPE : Addr) (a_EXPECTATION_FAILED : Addr) (a_NOT_IMPLEMENTED : Addr) (a_HTTP_VERSION_NOT_SUPPORTED : Addr) (a_MALFORMED_REQUEST : Addr) (a_INTERNAL_ERROR : Addr) (h0 : Heap) (n0 : Nat) (O0 : Old Z n0 h0) (hE : EV Z a_PATH_NOT_FOUND a_METHOD_NOT_ALLOWED a_UNSUPPORTED_MEDIA_TYPE a_EXPECTATION_FAILED a_NOT_IMPLEMENTED a_HTTP_VERSION_NOT_SUPPORTED a_MALFORMED_REQUEST a_INTERNAL_ERROR) :
    MetFree l own_m1 (head1 (Jvm.Cond.code own_m1 method_2_code 1 (some .int) :: ws) ({ frames := 0, cells := 0, slots := 0, locals := 0 } : Room)) (fun a U => a = #[(.ref a_HTTP_VERSION_NOT_SUPPORTED)] ∧ Z.Warmed39 U.vm ∧ U.heap = h0) (fun _ _ _ _ _ => True) (fun _ U o U' => ∃ v L, o = .returned v ∧ Q_f20 Z a_PATH_NOT_FOUND a_METHOD_NOT_ALLOWED a_UNSUPPORTED_MEDIA_TYPE a_EXPECTATION_FAILED a_NOT_IMPLEMENTED a_HTTP_VERSION_NOT_SUPPORTED a_MALFORMED_REQUEST a_INTERNAL_ERROR h0 n0 v U'.heap L ∧ FrameEnd U o U' L ({ frames := 0, cells := 0, slots := 0, locals := 0 } : Room).cells ({ frames := 0, cells := 0, slots := 0, locals := 0 } : Room).slots) := by
  refine MetFree.of_bodySF (plainFor_of_name pn_com_example_kwota_kwota_server_ErrorReasonOfStatusPinLaw) hisR ?_
  intro p e s m args below meth c s₁ Bd hml0 hP hK
  obtain ⟨rfl, hZ, hh⟩ := hP
  have hx := Bd.exec
  have hby := Bd.bytes
  have hml : c.maxLocals = 1 := hml0
  have hown : s.vm.findClass "com/example/kwota/kwota/server/ErrorReasonOfStatusPinLaw" = some m.cls := findClass_of_methodNamed Bd.named
  have hnm := (name_of_methodNamed Bd.named Bd.method).1
  have X0 : Stand p l e ({ frames := 0, cells := 0, slots := 0, locals := 0 } : Room) s m #[(.ref a_HTTP_VERSION_NOT_SUPPORTED)] below meth c s₁ [] 0 0 := Stand.of_body Bd
  have e0 : s₁.heap = h0 := by rw [← hh, Bd.state]; rfl
  have N0 := Fr.nil n0
  refine Classical.byContradiction fun hNG => ?_
  have K0 := Keep.refl h0 []
  have k0 : ∀ t, own_At p e below m s₁ 0 #[.val (.ref a_HTTP_VERSION_NOT_SUPPORTED)] [] t → own_En p e below m s₁ #[(.ref a_HTTP_VERSION_NOT_SUPPORTED)] 1 t := fun t k => castTop (ef_f20 m a_HTTP_VERSION_NOT_SUPPORTED ) k
  obtain ⟨S_PATH_NOT_FOUND, E_PATH_NOT_FOUND, S_METHOD_NOT_ALLOWED, E_METHOD_NOT_ALLOWED, S_UNSUPPORTED_MEDIA_TYPE, E_UNSUPPORTED_MEDIA_TYPE, S_EXPECTATION_FAILED, E_EXPECTATION_FAILED, S_NOT_IMPLEMENTED, E_NOT_IMPLEMENTED, S_HTTP_VERSION_NOT_SUPPORTED, E_HTTP_VERSION_NOT_SUPPORTED, S_MALFORMED_REQUEST, E_MALFORMED_REQUEST, S_INTERNAL_ERROR, E_INTERNAL_ERROR, F_EXPECTATION_FAILED_ordinal, F_PATH_NOT_FOUND_ordinal, F_METHOD_NOT_ALLOWED_ordinal, F_UNSUPPORTED_MEDIA_TYPE_ordinal, F_MALFORMED_REQUEST_ordinal, F_NOT_IMPLEMENTED_ordinal, F_HTTP_VERSION_NOT_SUPPORTED_ordinal, F_INTERNAL_ERROR_ordinal⟩ := (id hE : EV Z a_PATH_NOT_FOUND a_METHOD_NOT_ALLOWED a_UNSUPPORTED_MEDIA_TYPE a_EXPECTATION_FAILED a_NOT_IMPLEMENTED a_HTTP_VERSION_NOT_SUPPORTED a_MALFORMED_REQUEST a_INTERNAL_ERROR)
  obtain ⟨T1, X1, e1, st1⟩ := getS2 X0 hx hZ hown (host := "") (Or.inl (own_w hw 2 rfl)) Via.refl e0 (S_PATH_NOT_FOUND.ext O0.2) (g := (mkF m 1 #[.val (.ref a_HTTP_VERSION_NOT_SUPPORTED)] [(.ref a_HTTP_VERSION_NOT_SUPPORTED)])) rfl (hb hby d_method_2_code_1)
  obtain ⟨T2, X2, e2, st2⟩ := getS2 X1 hx hZ hown (host := "") (Or.inl (own_w hw 6 rfl)) Via.refl e1 (S_METHOD_NOT_ALLOWED.ext O0.2) (g := (mkF m 12 #[.val (.ref a_HTTP_VERSION_NOT_SUPPORTED)] [(.ref a_HTTP_VERSION_NOT_SUPPORTED)])) rfl (hb hby d_method_2_code_12)
  obtain ⟨T3, X3, e3, st3⟩ := getS2 X2 hx hZ hown (host := "") (Or.inl (own_w hw 8 rfl)) Via.refl e2 (S_UNSUPPORTED_MEDIA_TYPE.ext O0.2) (g := (mkF m 23 #[.val (.ref a_HTTP_VERSION_NOT_SUPPORTED)] [(.ref a_HTTP_VERSION_NOT_SUPPORTED)])) rfl (hb hby d_method_2_code_23)
  obtain ⟨T4, X4, e4, st4⟩ := getS2 X3 hx hZ hown (host := "") (Or.inl (own_w hw 10 rfl)) Via.refl e3 (S_EXPECTATION_FAILED.ext O0.2) (g := (mkF m 34 #[.val (.ref a_HTTP_VERSION_NOT_SUPPORTED)] [(.ref a_HTTP_VERSION_NOT_SUPPORTED)])) rfl (hb hby d_method_2_code_34)
  obtain ⟨T5, X5, e5, st5⟩ := getS2 X4 hx hZ hown (host := "") (Or.inl (own_w hw 12 rfl)) Via.refl e4 (S_NOT_IMPLEMENTED.ext O0.2) (g := (mkF m 45 #[.val (.ref a_HTTP_VERSION_NOT_SUPPORTED)] [(.ref a_HTTP_VERSION_NOT_SUPPORTED)])) rfl (hb hby d_method_2_code_45)
  obtain ⟨T6, X6, e6, st6⟩ := getS2 X5 hx hZ hown (host := "") (Or.inl (own_w hw 14 rfl)) Via.refl e5 (S_HTTP_VERSION_NOT_SUPPORTED.ext O0.2) (g := (mkF m 56 #[.val (.ref a_HTTP_VERSION_NOT_SUPPORTED)] [(.ref a_HTTP_VERSION_NOT_SUPPORTED)])) rfl (hb hby d_method_2_code_56)
  have k7 : ∀ t, own_At p e below m T6 65 #[.val (.ref a_HTTP_VERSION_NOT_SUPPORTED)] [(.int (505 : Int32))] t → own_En p e below m s₁ #[(.ref a_HTTP_VERSION_NOT_SUPPORTED)] 1 t := by
    intro t k
    refine k0 t ?_
    refine XS.aloadN X0.here hx rfl (hb hby d_method_2_code_0) rfl rfl ?_
    show own_At p e below m s₁ 1 #[.val (.ref a_HTTP_VERSION_NOT_SUPPORTED)] [(.ref a_HTTP_VERSION_NOT_SUPPORTED)] t
    refine st1 _ ?_
    show own_At p e below m T1 4 #[.val (.ref a_HTTP_VERSION_NOT_SUPPORTED)] [(.ref a_PATH_NOT_FOUND), (.ref a_HTTP_VERSION_NOT_SUPPORTED)] t
    refine Jvm.RoadKit.acmp (g := (mkF m 4 #[.val (.ref a_HTTP_VERSION_NOT_SUPPORTED)] [(.ref a_PATH_NOT_FOUND), (.ref a_HTTP_VERSION_NOT_SUPPORTED)])) X1 hx rfl rfl rfl (pc0 := 4) (pc' := 11) (same := false) rfl (hb hby d_method_2_code_4) rfl (decide_eq_false fun q => (F_HTTP_VERSION_NOT_SUPPORTED_ordinal.ne F_PATH_NOT_FOUND_ordinal (fun q => absurd (Value.int.inj q) (by decide))) (Value.ref.inj q)) (by decide) (by decide) ?_
    show own_At p e below m T1 11 #[.val (.ref a_HTTP_VERSION_NOT_SUPPORTED)] [] t
    refine XS.aloadN X1.here hx rfl (hb hby d_method_2_code_11) rfl rfl ?_
    show own_At p e below m T1 12 #[.val (.ref a_HTTP_VERSION_NOT_SUPPORTED)] [(.ref a_HTTP_VERSION_NOT_SUPPORTED)] t
    refine st2 _ ?_
    show own_At p e below m T2 15 #[.val (.ref a_HTTP_VERSION_NOT_SUPPORTED)] [(.ref a_METHOD_NOT_ALLOWED), (.ref a_HTTP_VERSION_NOT_SUPPORTED)] t
    refine Jvm.RoadKit.acmp (g := (mkF m 15 #[.val (.ref a_HTTP_VERSION_NOT_SUPPORTED)] [(.ref a_METHOD_NOT_ALLOWED), (.ref a_HTTP_VERSION_NOT_SUPPORTED)])) X2 hx rfl rfl rfl (pc0 := 15) (pc' := 22) (same := false) rfl (hb hby d_method_2_code_15) rfl (decide_eq_false fun q => (F_HTTP_VERSION_NOT_SUPPORTED_ordinal.ne F_METHOD_NOT_ALLOWED_ordinal (fun q => absurd (Value.int.inj q) (by decide))) (Value.ref.inj q)) (by decide) (by decide) ?_
    show own_At p e below m T2 22 #[.val (.ref a_HTTP_VERSION_NOT_SUPPORTED)] [] t
    refine XS.aloadN X2.here hx rfl (hb hby d_method_2_code_22) rfl rfl ?_
    show own_At p e below m T2 23 #[.val (.ref a_HTTP_VERSION_NOT_SUPPORTED)] [(.ref a_HTTP_VERSION_NOT_SUPPORTED)] t
    refine st3 _ ?_
    show own_At p e below m T3 26 #[.val (.ref a_HTTP_VERSION_NOT_SUPPORTED)] [(.ref a_UNSUPPORTED_MEDIA_TYPE), (.ref a_HTTP_VERSION_NOT_SUPPORTED)] t
    refine Jvm.RoadKit.acmp (g := (mkF m 26 #[.val (.ref a_HTTP_VERSION_NOT_SUPPORTED)] [(.ref a_UNSUPPORTED_MEDIA_TYPE), (.ref a_HTTP_VERSION_NOT_SUPPORTED)])) X3 hx rfl rfl rfl (pc0 := 26) (pc' := 33) (same := false) rfl (hb hby d_method_2_code_26) rfl (decide_eq_false fun q => (F_HTTP_VERSION_NOT_SUPPORTED_ordinal.ne F_UNSUPPORTED_MEDIA_TYPE_ordinal (fun q => absurd (Value.int.inj q) (by decide))) (Value.ref.inj q)) (by decide) (by decide) ?_
    show own_At p e below m T3 33 #[.val (.ref a_HTTP_VERSION_NOT_SUPPORTED)] [] t
    refine XS.aloadN X3.here hx rfl (hb hby d_method_2_code_33) rfl rfl ?_
    show own_At p e below m T3 34 #[.val (.ref a_HTTP_VERSION_NOT_SUPPORTED)] [(.ref a_HTTP_VERSION_NOT_SUPPORTED)] t
    refine st4 _ ?_
    show own_At p e below m T4 37 #[.val (.ref a_HTTP_VERSION_NOT_SUPPORTED)] [(.ref a_EXPECTATION_FAILED), (.ref a_HTTP_VERSION_NOT_SUPPORTED)] t
    refine Jvm.RoadKit.acmp (g := (mkF m 37 #[.val (.ref a_HTTP_VERSION_NOT_SUPPORTED)] [(.ref a_EXPECTATION_FAILED), (.ref a_HTTP_VERSION_NOT_SUPPORTED)])) X4 hx rfl rfl rfl (pc0 := 37) (pc' := 44) (same := false) rfl (hb hby d_method_2_code_37) rfl (decide_eq_false fun q => (F_HTTP_VERSION_NOT_SUPPORTED_ordinal.ne F_EXPECTATION_FAILED_ordinal (fun q => absurd (Value.int.inj q) (by decide))) (Value.ref.inj q)) (by decide) (by decide) ?_
    show own_At p e below m T4 44 #[.val (.ref a_HTTP_VERSION_NOT_SUPPORTED)] [] t
    refine XS.aloadN X4.here hx rfl (hb hby d_method_2_code_44) rfl rfl ?_
    show own_At p e below m T4 45 #[.val (.ref a_HTTP_VERSION_NOT_SUPPORTED)] [(.ref a_HTTP_VERSION_NOT_SUPPORTED)] t
    refine st5 _ ?_
    show own_At p e below m T5 48 #[.val (.ref a_HTTP_VERSION_NOT_SUPPORTED)] [(.ref a_NOT_IMPLEMENTED), (.ref a_HTTP_VERSION_NOT_SUPPORTED)] t
    refine Jvm.RoadKit.acmp (g := (mkF m 48 #[.val (.ref a_HTTP_VERSION_NOT_SUPPORTED)] [(.ref a_NOT_IMPLEMENTED), (.ref a_HTTP_VERSION_NOT_SUPPORTED)])) X5 hx rfl rfl rfl (pc0 := 48) (pc' := 55) (same := false) rfl (hb hby d_method_2_code_48) rfl (decide_eq_false fun q => (F_HTTP_VERSION_NOT_SUPPORTED_ordinal.ne F_NOT_IMPLEMENTED_ordinal (fun q => absurd (Value.int.inj q) (by decide))) (Value.ref.inj q)) (by decide) (by decide) ?_
    show own_At p e below m T5 55 #[.val (.ref a_HTTP_VERSION_NOT_SUPPORTED)] [] t
    refine XS.aloadN X5.here hx rfl (hb hby d_method_2_code_55) rfl rfl ?_
    show own_At p e below m T5 56 #[.val (.ref a_HTTP_VERSION_NOT_SUPPORTED)] [(.ref a_HTTP_VERSION_NOT_SUPPORTED)] t
    refine st6 _ ?_
    show own_At p e below m T6 59 #[.val (.ref a_HTTP_VERSION_NOT_SUPPORTED)] [(.ref a_HTTP_VERSION_NOT_SUPPORTED), (.ref a_HTTP_VERSION_NOT_SUPPORTED)] t
    refine Jvm.RoadKit.acmp (g := (mkF m 59 #[.val (.ref a_HTTP_VERSION_NOT_SUPPORTED)] [(.ref a_HTTP_VERSION_NOT_SUPPORTED), (.ref a_HTTP_VERSION_NOT_SUPPORTED)])) X6 hx rfl rfl rfl (pc0 := 59) (pc' := 62) (same := true) rfl (hb hby d_method_2_code_59) rfl (decide_eq_true rfl) (by decide) (by decide) ?_
    show own_At p e below m T6 62 #[.val (.ref a_HTTP_VERSION_NOT_SUPPORTED)] [] t
    refine XS.sipush X6.here hx rfl (hb hby d_method_2_code_62) ?_
    show own_At p e below m T6 65 #[.val (.ref a_HTTP_VERSION_NOT_SUPPORTED)] [(.int (505 : Int32))] t
    exact k
  obtain ⟨fs, hr, hrun, hended, hW, hsame⟩ := X6.leave (v := some (.int (505 : Int32))) (fun h => by rw [Bd.returns] at h; cases h)
  refine hNG ⟨_, _, k7 _ ?_, hrun, hended, _, _, rfl, ?_, ⟨_, rfl⟩, hW, hsame.mono (by decide) (by decide)⟩
  · exact retOut X6 hx (t := .int) Bd.returns rfl (Or.inl ⟨rfl, Or.inl rfl, _, rfl⟩) (hb hby d_method_2_code_65) hr
  · show Q_f20 Z a_PATH_NOT_FOUND a_METHOD_NOT_ALLOWED a_UNSUPPORTED_MEDIA_TYPE a_EXPECTATION_FAILED a_NOT_IMPLEMENTED a_HTTP_VERSION_NOT_SUPPORTED a_MALFORMED_REQUEST a_INTERNAL_ERROR h0 n0 _ T6.heap _
    rw [e6]
    exact ⟨rfl, N0, rfl⟩
def Q_f18 (Z : State) (a_PATH_NOT_FOUND : Addr) (a_METHOD_NOT_ALLOWED : Addr) (a_UNSUPPORTED_MEDIA_TYPE : Addr) (a_EXPECTATION_FAILED : Addr) (a_NOT_IMPLEMENTED : Addr) (a_HTTP_VERSION_NOT_SUPPORTED : Addr) (a_MALFORMED_REQUEST : Addr) (a_INTERNAL_ERROR : Addr) (h0 : Heap) (n0 : Nat) (v : Option Value) (h : Heap) (L : List Loc) : Prop := v = some (.int (1 : Int32)) ∧ Fr n0 L ∧ h = h0
set_option maxRecDepth 65536 in
set_option maxHeartbeats 40000000 in
theorem rm_f18 (l : Launch) (Z : State) (a0 : Array Value) (hw : ∀ d ∈ tables_1, d.before a0 Z = true) (ws : List Jvm.Cond) (a_PATH_NOT_FOUND : Addr) (a_METHOD_NOT_ALLOWED : Addr) (a_UNSUPPORTED_MEDIA_TYPE : Addr) (a_EXPECTATION_FAILED : Addr) (a_NOT_IMPLEMENTED : Addr) (a_HTTP_VERSION_NOT_SUPPORTED : Addr) (a_MALFORMED_REQUEST : Addr) (a_INTERNAL_ERROR : Addr) (h0 : Heap) (n0 : Nat) (O0 : Old Z n0 h0) (hE : EV Z a_PATH_NOT_FOUND a_METHOD_NOT_ALLOWED a_UNSUPPORTED_MEDIA_TYPE a_EXPECTATION_FAILED a_NOT_IMPLEMENTED a_HTTP_VERSION_NOT_SUPPORTED a_MALFORMED_REQUEST a_INTERNAL_ERROR) :
    MetFree l own_m2 (head1 (Jvm.Cond.code own_m2 method_3_code 3 (some .boolean) :: ws) ({ frames := 1, cells := 0, slots := 0, locals := 16 } : Room)) (fun a U => a = #[(.int (505 : Int32))] ∧ Z.Warmed39 U.vm ∧ U.heap = h0) (fun _ _ _ _ _ => True) (fun _ U o U' => ∃ v L, o = .returned v ∧ Q_f18 Z a_PATH_NOT_FOUND a_METHOD_NOT_ALLOWED a_UNSUPPORTED_MEDIA_TYPE a_EXPECTATION_FAILED a_NOT_IMPLEMENTED a_HTTP_VERSION_NOT_SUPPORTED a_MALFORMED_REQUEST a_INTERNAL_ERROR h0 n0 v U'.heap L ∧ FrameEnd U o U' L ({ frames := 1, cells := 0, slots := 0, locals := 16 } : Room).cells ({ frames := 1, cells := 0, slots := 0, locals := 16 } : Room).slots) := by
  refine MetFree.of_bodySF (plainFor_of_name pn_com_example_kwota_kwota_server_ErrorReasonOfStatusPinLaw) hisR ?_
  intro p e s m args below meth c s₁ Bd hml0 hP hK
  obtain ⟨rfl, hZ, hh⟩ := hP
  have hx := Bd.exec
  have hby := Bd.bytes
  have hml : c.maxLocals = 3 := hml0
  have hown : s.vm.findClass "com/example/kwota/kwota/server/ErrorReasonOfStatusPinLaw" = some m.cls := findClass_of_methodNamed Bd.named
  have hnm := (name_of_methodNamed Bd.named Bd.method).1
  have X0 : Stand p l e ({ frames := 1, cells := 0, slots := 0, locals := 16 } : Room) s m #[(.int (505 : Int32))] below meth c s₁ [] 0 0 := Stand.of_body Bd
  have e0 : s₁.heap = h0 := by rw [← hh, Bd.state]; rfl
  have N0 := Fr.nil n0
  refine Classical.byContradiction fun hNG => ?_
  have K0 := Keep.refl h0 []
  have k0 : ∀ t, own_At p e below m s₁ 0 #[.val (.int (505 : Int32)), .unset, .unset] [] t → own_En p e below m s₁ #[(.int (505 : Int32))] 3 t := fun t k => castTop (ef_f18 m ((505 : Int32)) ) k
  obtain ⟨S_PATH_NOT_FOUND, E_PATH_NOT_FOUND, S_METHOD_NOT_ALLOWED, E_METHOD_NOT_ALLOWED, S_UNSUPPORTED_MEDIA_TYPE, E_UNSUPPORTED_MEDIA_TYPE, S_EXPECTATION_FAILED, E_EXPECTATION_FAILED, S_NOT_IMPLEMENTED, E_NOT_IMPLEMENTED, S_HTTP_VERSION_NOT_SUPPORTED, E_HTTP_VERSION_NOT_SUPPORTED, S_MALFORMED_REQUEST, E_MALFORMED_REQUEST, S_INTERNAL_ERROR, E_INTERNAL_ERROR, F_EXPECTATION_FAILED_ordinal, F_PATH_NOT_FOUND_ordinal, F_METHOD_NOT_ALLOWED_ordinal, F_UNSUPPORTED_MEDIA_TYPE_ordinal, F_MALFORMED_REQUEST_ordinal, F_NOT_IMPLEMENTED_ordinal, F_HTTP_VERSION_NOT_SUPPORTED_ordinal, F_INTERNAL_ERROR_ordinal⟩ := (id hE : EV Z a_PATH_NOT_FOUND a_METHOD_NOT_ALLOWED a_UNSUPPORTED_MEDIA_TYPE a_EXPECTATION_FAILED a_NOT_IMPLEMENTED a_HTTP_VERSION_NOT_SUPPORTED a_MALFORMED_REQUEST a_INTERNAL_ERROR)
  obtain ⟨_, _, ⟨T1, L1, k1, n1⟩, -, X1, ⟨Lc1, hQ1, l1, y1, z1⟩, st1⟩ := Jvm.LawKit.callS X0 hx (y := own_m0) hown (mvT hZ (own_w hw 27 rfl)) (mvT hZ (own_w hw 28 rfl)) (mvT hZ (own_w hw 3 rfl)) (mvT hZ (own_w hw 29 rfl)) (by decide) (backOf (W := 0) (rm_f19 l Z a0 hw []  _ _ _ _ _ _ _ _ h0 n0 O0 hE) hZ (own_w hw 29 rfl) (own_w hw 3 rfl) (by decide) (by decide)) (g := (mkF m 1 #[.val (.int (505 : Int32)), .unset, .unset] [(.int (505 : Int32))])) rfl (by rw [hml]; rfl) (argsL := [(.int (505 : Int32))]) (rest := []) (lenOf pd__I_Lcom_example_kwota_kwota_server_ErrorReason_ rfl) rfl (by show 2 * 0 + _ ≤ _; exact Nat.le_of_eq rfl) (hb hby d_method_3_code_1) (fun _ _ => ⟨rfl, e0, (by decide : 0 + 0 ≤ _), (by decide : 0 + 0 ≤ _)⟩)
  dsimp only [Pt.U, Pt.locs, Pt.cells, Pt.slots] at X1 l1 y1 z1 st1 hQ1
  subst l1 y1 z1
  obtain ⟨rfl, N1q, hp1⟩ := hQ1
  have N1 := Fr.app N0 N1q
  obtain ⟨_, _, ⟨T2, L2, k2, n2⟩, -, X2, ⟨Lc2, hQ2, l2, y2, z2⟩, st2⟩ := Jvm.LawKit.callS X1 hx (y := own_m1) hown (mvT hZ (own_w hw 20 rfl)) (mvT hZ (own_w hw 21 rfl)) (mvT hZ (own_w hw 22 rfl)) (mvT hZ (own_w hw 23 rfl)) (by decide) (backOf (W := 0) (rm_f20 l Z a0 hw []  _ _ _ _ _ _ _ _ h0 n0 O0 hE) hZ (own_w hw 23 rfl) (own_w hw 22 rfl) (by decide) (by decide)) (g := (mkF m 6 #[.val (.int (505 : Int32)), .val (.ref a_HTTP_VERSION_NOT_SUPPORTED), .unset] [(.ref a_HTTP_VERSION_NOT_SUPPORTED)])) rfl (by rw [hml]; rfl) (argsL := [(.ref a_HTTP_VERSION_NOT_SUPPORTED)]) (rest := []) (lenOf pd__Lcom_example_kwota_kwota_server_ErrorReason__I rfl) rfl (by show 2 * 0 + _ ≤ _; exact Nat.le_of_eq rfl) (hb hby d_method_3_code_6) (fun _ _ => ⟨rfl, hp1, (by decide : 0 + 0 ≤ _), (by decide : 0 + 0 ≤ _)⟩)
  dsimp only [Pt.U, Pt.locs, Pt.cells, Pt.slots] at X2 l2 y2 z2 st2 hQ2
  subst l2 y2 z2
  obtain ⟨rfl, N2q, hp2⟩ := hQ2
  have N2 := Fr.app N1 N2q
  have k3 : ∀ t, own_At p e below m T2 22 #[.val (.int (505 : Int32)), .val (.ref a_HTTP_VERSION_NOT_SUPPORTED), .val (.int (505 : Int32))] [(.int (1 : Int32))] t → own_En p e below m s₁ #[(.int (505 : Int32))] 3 t := by
    intro t k
    refine k0 t ?_
    refine XS.iloadN X0.here hx rfl (hb hby d_method_3_code_0) rfl ?_
    show own_At p e below m s₁ 1 #[.val (.int (505 : Int32)), .unset, .unset] [(.int (505 : Int32))] t
    refine st1 _ ?_
    show own_At p e below m T1 4 #[.val (.int (505 : Int32)), .unset, .unset] [(.ref a_HTTP_VERSION_NOT_SUPPORTED)] t
    refine XS.astoreN X1.here hx rfl (hb hby d_method_3_code_4) rfl rfl (l' := #[.val (.int (505 : Int32)), .val (.ref a_HTTP_VERSION_NOT_SUPPORTED), .unset]) rfl ?_
    show own_At p e below m T1 5 #[.val (.int (505 : Int32)), .val (.ref a_HTTP_VERSION_NOT_SUPPORTED), .unset] [] t
    refine XS.aloadN X1.here hx rfl (hb hby d_method_3_code_5) rfl rfl ?_
    show own_At p e below m T1 6 #[.val (.int (505 : Int32)), .val (.ref a_HTTP_VERSION_NOT_SUPPORTED), .unset] [(.ref a_HTTP_VERSION_NOT_SUPPORTED)] t
    refine st2 _ ?_
    show own_At p e below m T2 9 #[.val (.int (505 : Int32)), .val (.ref a_HTTP_VERSION_NOT_SUPPORTED), .unset] [(.int (505 : Int32))] t
    refine XS.istoreN X2.here hx rfl (hb hby d_method_3_code_9) rfl (l' := #[.val (.int (505 : Int32)), .val (.ref a_HTTP_VERSION_NOT_SUPPORTED), .val (.int (505 : Int32))]) rfl ?_
    show own_At p e below m T2 10 #[.val (.int (505 : Int32)), .val (.ref a_HTTP_VERSION_NOT_SUPPORTED), .val (.int (505 : Int32))] [] t
    refine XS.iloadN X2.here hx rfl (hb hby d_method_3_code_10) rfl ?_
    show own_At p e below m T2 11 #[.val (.int (505 : Int32)), .val (.ref a_HTTP_VERSION_NOT_SUPPORTED), .val (.int (505 : Int32))] [(.int (505 : Int32))] t
    refine XS.ifYes X2.here hx rfl (pc0 := 11) (pc' := 16) rfl (hb hby d_method_3_code_11) rfl ((if0 _ _).trans (tlt (by decide : (0 : Int32) < (505 : Int32))).2.2.1) (by decide) (by decide) ?_
    show own_At p e below m T2 16 #[.val (.int (505 : Int32)), .val (.ref a_HTTP_VERSION_NOT_SUPPORTED), .val (.int (505 : Int32))] [] t
    refine XS.iloadN X2.here hx rfl (hb hby d_method_3_code_16) rfl ?_
    show own_At p e below m T2 17 #[.val (.int (505 : Int32)), .val (.ref a_HTTP_VERSION_NOT_SUPPORTED), .val (.int (505 : Int32))] [(.int (505 : Int32))] t
    refine XS.iloadN X2.here hx rfl (hb hby d_method_3_code_17) rfl ?_
    show own_At p e below m T2 18 #[.val (.int (505 : Int32)), .val (.ref a_HTTP_VERSION_NOT_SUPPORTED), .val (.int (505 : Int32))] [(.int (505 : Int32)), (.int (505 : Int32))] t
    refine XS.icmpNo X2.here hx rfl (hb hby d_method_3_code_18) rfl (teq (by decide : (505 : Int32) = (505 : Int32))).2 ?_
    show own_At p e below m T2 21 #[.val (.int (505 : Int32)), .val (.ref a_HTTP_VERSION_NOT_SUPPORTED), .val (.int (505 : Int32))] [] t
    refine XS.iconst X2.here hx rfl (hb hby d_method_3_code_21) ?_
    show own_At p e below m T2 22 #[.val (.int (505 : Int32)), .val (.ref a_HTTP_VERSION_NOT_SUPPORTED), .val (.int (505 : Int32))] [(.int (1 : Int32))] t
    exact k
  obtain ⟨fs, hr, hrun, hended, hW, hsame⟩ := X2.leave (v := some (.int (1 : Int32))) (fun h => by rw [Bd.returns] at h; cases h)
  refine hNG ⟨_, _, k3 _ ?_, hrun, hended, _, _, rfl, ?_, ⟨_, rfl⟩, hW, hsame.mono (by decide) (by decide)⟩
  · exact retN X2 hx (t := .boolean) Bd.returns (by simp) (hb hby d_method_3_code_22) hr
  · show Q_f18 Z a_PATH_NOT_FOUND a_METHOD_NOT_ALLOWED a_UNSUPPORTED_MEDIA_TYPE a_EXPECTATION_FAILED a_NOT_IMPLEMENTED a_HTTP_VERSION_NOT_SUPPORTED a_MALFORMED_REQUEST a_INTERNAL_ERROR h0 n0 _ T2.heap _
    rw [hp2]
    exact ⟨rfl, N2, rfl⟩
theorem rm_fits (l : Launch) (Z : State) (a0 : Array Value) (hw : ∀ d ∈ tables_1, d.before a0 Z = true) (ws : List Jvm.Cond) (p0 : Int32) (a_PATH_NOT_FOUND : Addr) (a_METHOD_NOT_ALLOWED : Addr) (a_UNSUPPORTED_MEDIA_TYPE : Addr) (a_EXPECTATION_FAILED : Addr) (a_NOT_IMPLEMENTED : Addr) (a_HTTP_VERSION_NOT_SUPPORTED : Addr) (a_MALFORMED_REQUEST : Addr) (a_INTERNAL_ERROR : Addr) (h0 : Heap) (n0 : Nat) (O0 : Old Z n0 h0) (hE : EV Z a_PATH_NOT_FOUND a_METHOD_NOT_ALLOWED a_UNSUPPORTED_MEDIA_TYPE a_EXPECTATION_FAILED a_NOT_IMPLEMENTED a_HTTP_VERSION_NOT_SUPPORTED a_MALFORMED_REQUEST a_INTERNAL_ERROR) :
    MetFree l own_m2 (head1 (Jvm.Cond.code own_m2 method_3_code 3 (some .boolean) :: ws) ({ frames := 1, cells := 0, slots := 0, locals := 16 } : Room)) (fun a U => a = #[(.int p0)] ∧ Z.Warmed39 U.vm ∧ U.heap = h0) (fun _ _ _ _ _ => True) (fun _ U o U' => ∃ v L, o = .returned v ∧ Q_fits_lo Z p0 a_PATH_NOT_FOUND a_METHOD_NOT_ALLOWED a_UNSUPPORTED_MEDIA_TYPE a_EXPECTATION_FAILED a_NOT_IMPLEMENTED a_HTTP_VERSION_NOT_SUPPORTED a_MALFORMED_REQUEST a_INTERNAL_ERROR h0 n0 v U'.heap L ∧ FrameEnd U o U' L ({ frames := 1, cells := 0, slots := 0, locals := 16 } : Room).cells ({ frames := 1, cells := 0, slots := 0, locals := 16 } : Room).slots) := by
  by_cases n404 : p0 = (404 : Int32)
  · subst n404; exact (rm_f3 l Z a0 hw ws  _ _ _ _ _ _ _ _ h0 n0 O0 hE)
  by_cases n405 : p0 = (405 : Int32)
  · subst n405; exact (rm_f6 l Z a0 hw ws  _ _ _ _ _ _ _ _ h0 n0 O0 hE)
  by_cases n415 : p0 = (415 : Int32)
  · subst n415; exact (rm_f9 l Z a0 hw ws  _ _ _ _ _ _ _ _ h0 n0 O0 hE)
  by_cases n417 : p0 = (417 : Int32)
  · subst n417; exact (rm_f12 l Z a0 hw ws  _ _ _ _ _ _ _ _ h0 n0 O0 hE)
  by_cases n501 : p0 = (501 : Int32)
  · subst n501; exact (rm_f15 l Z a0 hw ws  _ _ _ _ _ _ _ _ h0 n0 O0 hE)
  by_cases n505 : p0 = (505 : Int32)
  · subst n505; exact (rm_f18 l Z a0 hw ws  _ _ _ _ _ _ _ _ h0 n0 O0 hE)
  by_cases hlt : p0 < (500 : Int32)
  · exact rm_fits_lo l Z a0 hw ws p0 _ _ _ _ _ _ _ _ h0 n0 O0 hE n404 n405 n415 n417 n501 n505 hlt
  · exact rm_fits_hi l Z a0 hw ws p0 _ _ _ _ _ _ _ _ h0 n0 O0 hE n404 n405 n415 n417 n501 n505 hlt
theorem own_and7 (p : Int32) : (p &&& (7 : Int32)) = (0 : Int32) ∨ (p &&& (7 : Int32)) = (1 : Int32) ∨ (p &&& (7 : Int32)) = (2 : Int32) ∨ (p &&& (7 : Int32)) = (3 : Int32) ∨ (p &&& (7 : Int32)) = (4 : Int32) ∨ (p &&& (7 : Int32)) = (5 : Int32) ∨ (p &&& (7 : Int32)) = (6 : Int32) ∨ (p &&& (7 : Int32)) = (7 : Int32) := by
  have e := c_mask p (7 : Int32) 3 (by decide) (by decide)
  have e0 : (0 : Int32).toInt = 0 := by decide
  have e1 : (1 : Int32).toInt = 1 := by decide
  have e2 : (2 : Int32).toInt = 2 := by decide
  have e3 : (3 : Int32).toInt = 3 := by decide
  have e4 : (4 : Int32).toInt = 4 := by decide
  have e5 : (5 : Int32).toInt = 5 := by decide
  have e6 : (6 : Int32).toInt = 6 := by decide
  have e7 : (7 : Int32).toInt = 7 := by decide
  simp only [← Int32.toInt_inj, e, e0, e1, e2, e3, e4, e5, e6, e7]
  omega
theorem ef_law (m : MethodId) (x0 : Int32) (x1 : Int32)  : entryFrame m #[(.int x0), (.int x1)] maxLocals = mkF m 0 #[.val (.int x0), .val (.int x1), .unset, .unset, .unset] [] := by first | (simp [entryFrame, mkF, argsToLocals, Value.category, maxLocals]; done) | rfl
theorem pd__I_Z : parseMethodDescriptor "(I)Z" = some ⟨[.int], some .boolean⟩ := by decide +kernel
theorem ef_f21 (m : MethodId) (x0 : Int32)  : entryFrame m #[(.int x0)] 1 = mkF m 0 #[.val (.int x0)] [] := by first | (simp [entryFrame, mkF, argsToLocals, Value.category]; done) | rfl
def Q_f21 (Z : State) (a_PATH_NOT_FOUND : Addr) (a_METHOD_NOT_ALLOWED : Addr) (a_UNSUPPORTED_MEDIA_TYPE : Addr) (a_EXPECTATION_FAILED : Addr) (a_NOT_IMPLEMENTED : Addr) (a_HTTP_VERSION_NOT_SUPPORTED : Addr) (a_MALFORMED_REQUEST : Addr) (a_INTERNAL_ERROR : Addr) (h0 : Heap) (n0 : Nat) (v : Option Value) (h : Heap) (L : List Loc) : Prop := v = some (.ref a_MALFORMED_REQUEST) ∧ Fr n0 L ∧ h = h0
set_option maxRecDepth 65536 in
set_option maxHeartbeats 40000000 in
theorem rm_f21 (l : Launch) (Z : State) (a0 : Array Value) (hw : ∀ d ∈ tables_1, d.before a0 Z = true) (ws : List Jvm.Cond) (a_PATH_NOT_FOUND : Addr) (a_METHOD_NOT_ALLOWED : Addr) (a_UNSUPPORTED_MEDIA_TYPE : Addr) (a_EXPECTATION_FAILED : Addr) (a_NOT_IMPLEMENTED : Addr) (a_HTTP_VERSION_NOT_SUPPORTED : Addr) (a_MALFORMED_REQUEST : Addr) (a_INTERNAL_ERROR : Addr) (h0 : Heap) (n0 : Nat) (O0 : Old Z n0 h0) (hE : EV Z a_PATH_NOT_FOUND a_METHOD_NOT_ALLOWED a_UNSUPPORTED_MEDIA_TYPE a_EXPECTATION_FAILED a_NOT_IMPLEMENTED a_HTTP_VERSION_NOT_SUPPORTED a_MALFORMED_REQUEST a_INTERNAL_ERROR) :
    MetFree l own_m0 (head1 (Jvm.Cond.code own_m0 prog_59_method_4_code 1 (some (.object "com/example/kwota/kwota/server/ErrorReason")) :: ws) ({ frames := 0, cells := 0, slots := 0, locals := 0 } : Room)) (fun a U => a = #[(.int (400 : Int32))] ∧ Z.Warmed39 U.vm ∧ U.heap = h0) (fun _ _ _ _ _ => True) (fun _ U o U' => ∃ v L, o = .returned v ∧ Q_f21 Z a_PATH_NOT_FOUND a_METHOD_NOT_ALLOWED a_UNSUPPORTED_MEDIA_TYPE a_EXPECTATION_FAILED a_NOT_IMPLEMENTED a_HTTP_VERSION_NOT_SUPPORTED a_MALFORMED_REQUEST a_INTERNAL_ERROR h0 n0 v U'.heap L ∧ FrameEnd U o U' L ({ frames := 0, cells := 0, slots := 0, locals := 0 } : Room).cells ({ frames := 0, cells := 0, slots := 0, locals := 0 } : Room).slots) := by
  refine MetFree.of_bodySF (plainFor_of_name pn_com_example_kwota_kwota_server_ErrorReason) hisR ?_
  intro p e s m args below meth c s₁ Bd hml0 hP hK
  obtain ⟨rfl, hZ, hh⟩ := hP
  have hx := Bd.exec
  have hby := Bd.bytes
  have hml : c.maxLocals = 1 := hml0
  have hown : s.vm.findClass "com/example/kwota/kwota/server/ErrorReason" = some m.cls := findClass_of_methodNamed Bd.named
  have hnm := (name_of_methodNamed Bd.named Bd.method).1
  have X0 : Stand p l e ({ frames := 0, cells := 0, slots := 0, locals := 0 } : Room) s m #[(.int (400 : Int32))] below meth c s₁ [] 0 0 := Stand.of_body Bd
  have e0 : s₁.heap = h0 := by rw [← hh, Bd.state]; rfl
  have N0 := Fr.nil n0
  refine Classical.byContradiction fun hNG => ?_
  have K0 := Keep.refl h0 []
  have k0 : ∀ t, own_At p e below m s₁ 0 #[.val (.int (400 : Int32))] [] t → own_En p e below m s₁ #[(.int (400 : Int32))] 1 t := fun t k => castTop (ef_f21 m ((400 : Int32)) ) k
  obtain ⟨S_PATH_NOT_FOUND, E_PATH_NOT_FOUND, S_METHOD_NOT_ALLOWED, E_METHOD_NOT_ALLOWED, S_UNSUPPORTED_MEDIA_TYPE, E_UNSUPPORTED_MEDIA_TYPE, S_EXPECTATION_FAILED, E_EXPECTATION_FAILED, S_NOT_IMPLEMENTED, E_NOT_IMPLEMENTED, S_HTTP_VERSION_NOT_SUPPORTED, E_HTTP_VERSION_NOT_SUPPORTED, S_MALFORMED_REQUEST, E_MALFORMED_REQUEST, S_INTERNAL_ERROR, E_INTERNAL_ERROR, F_EXPECTATION_FAILED_ordinal, F_PATH_NOT_FOUND_ordinal, F_METHOD_NOT_ALLOWED_ordinal, F_UNSUPPORTED_MEDIA_TYPE_ordinal, F_MALFORMED_REQUEST_ordinal, F_NOT_IMPLEMENTED_ordinal, F_HTTP_VERSION_NOT_SUPPORTED_ordinal, F_INTERNAL_ERROR_ordinal⟩ := (id hE : EV Z a_PATH_NOT_FOUND a_METHOD_NOT_ALLOWED a_UNSUPPORTED_MEDIA_TYPE a_EXPECTATION_FAILED a_NOT_IMPLEMENTED a_HTTP_VERSION_NOT_SUPPORTED a_MALFORMED_REQUEST a_INTERNAL_ERROR)
  obtain ⟨T1, X1, e1, st1⟩ := getS2 X0 hx hZ hown (host := "") (Or.inl (own_w hw 30 rfl)) Via.refl e0 (S_MALFORMED_REQUEST.ext O0.2) (g := (mkF m 97 #[.val (.int (400 : Int32))] [])) rfl (hb hby d_prog_59_method_4_code_97)
  have k2 : ∀ t, own_At p e below m T1 100 #[.val (.int (400 : Int32))] [(.ref a_MALFORMED_REQUEST)] t → own_En p e below m s₁ #[(.int (400 : Int32))] 1 t := by
    intro t k
    refine k0 t ?_
    refine XS.iloadN X0.here hx rfl (hb hby d_prog_59_method_4_code_0) rfl ?_
    show own_At p e below m s₁ 1 #[.val (.int (400 : Int32))] [(.int (400 : Int32))] t
    refine own_lsw X0.here hx rfl (pc0 := 1) (pc' := 84) rfl (hb hby d_prog_59_method_4_code_1) rfl (by decide) (o := 83) (by decide) (by decide) (by decide) ?_
    show own_At p e below m s₁ 84 #[.val (.int (400 : Int32))] [] t
    refine XS.iloadN X0.here hx rfl (hb hby d_prog_59_method_4_code_84) rfl ?_
    show own_At p e below m s₁ 85 #[.val (.int (400 : Int32))] [(.int (400 : Int32))] t
    refine XS.sipush X0.here hx rfl (hb hby d_prog_59_method_4_code_85) ?_
    show own_At p e below m s₁ 88 #[.val (.int (400 : Int32))] [(.int (500 : Int32)), (.int (400 : Int32))] t
    refine XS.icmpYes X0.here hx rfl (pc0 := 88) (pc' := 97) rfl (hb hby d_prog_59_method_4_code_88) rfl (tlt (by decide : (400 : Int32) < (500 : Int32))).1 (by decide) (by decide) ?_
    show own_At p e below m s₁ 97 #[.val (.int (400 : Int32))] [] t
    refine st1 _ ?_
    show own_At p e below m T1 100 #[.val (.int (400 : Int32))] [(.ref a_MALFORMED_REQUEST)] t
    exact k
  obtain ⟨fs, hr, hrun, hended, hW, hsame⟩ := X1.leave (v := some (.ref a_MALFORMED_REQUEST)) (fun h => by rw [Bd.returns] at h; cases h)
  refine hNG ⟨_, _, k2 _ ?_, hrun, hended, _, _, rfl, ?_, ⟨_, rfl⟩, hW, hsame.mono (by decide) (by decide)⟩
  · exact retOut X1 hx (t := (.object "com/example/kwota/kwota/server/ErrorReason")) Bd.returns rfl (Or.inr (Or.inr (Or.inr (Or.inr ⟨rfl, rfl, rfl⟩)))) (hb hby d_prog_59_method_4_code_100) hr
  · show Q_f21 Z a_PATH_NOT_FOUND a_METHOD_NOT_ALLOWED a_UNSUPPORTED_MEDIA_TYPE a_EXPECTATION_FAILED a_NOT_IMPLEMENTED a_HTTP_VERSION_NOT_SUPPORTED a_MALFORMED_REQUEST a_INTERNAL_ERROR h0 n0 _ T1.heap _
    rw [e1]
    exact ⟨rfl, N0, rfl⟩
theorem ef_f22 (m : MethodId) (x0 : Int32)  : entryFrame m #[(.int x0)] 3 = mkF m 0 #[.val (.int x0), .unset, .unset] [] := by first | (simp [entryFrame, mkF, argsToLocals, Value.category]; done) | rfl
def Q_f22 (Z : State) (a_PATH_NOT_FOUND : Addr) (a_METHOD_NOT_ALLOWED : Addr) (a_UNSUPPORTED_MEDIA_TYPE : Addr) (a_EXPECTATION_FAILED : Addr) (a_NOT_IMPLEMENTED : Addr) (a_HTTP_VERSION_NOT_SUPPORTED : Addr) (a_MALFORMED_REQUEST : Addr) (a_INTERNAL_ERROR : Addr) (h0 : Heap) (n0 : Nat) (v : Option Value) (h : Heap) (L : List Loc) : Prop := v = some (.int (1 : Int32)) ∧ Fr n0 L ∧ h = h0
set_option maxRecDepth 65536 in
set_option maxHeartbeats 40000000 in
theorem rm_f22 (l : Launch) (Z : State) (a0 : Array Value) (hw : ∀ d ∈ tables_1, d.before a0 Z = true) (ws : List Jvm.Cond) (a_PATH_NOT_FOUND : Addr) (a_METHOD_NOT_ALLOWED : Addr) (a_UNSUPPORTED_MEDIA_TYPE : Addr) (a_EXPECTATION_FAILED : Addr) (a_NOT_IMPLEMENTED : Addr) (a_HTTP_VERSION_NOT_SUPPORTED : Addr) (a_MALFORMED_REQUEST : Addr) (a_INTERNAL_ERROR : Addr) (h0 : Heap) (n0 : Nat) (O0 : Old Z n0 h0) (hE : EV Z a_PATH_NOT_FOUND a_METHOD_NOT_ALLOWED a_UNSUPPORTED_MEDIA_TYPE a_EXPECTATION_FAILED a_NOT_IMPLEMENTED a_HTTP_VERSION_NOT_SUPPORTED a_MALFORMED_REQUEST a_INTERNAL_ERROR) :
    MetFree l own_m2 (head1 (Jvm.Cond.code own_m2 method_3_code 3 (some .boolean) :: ws) ({ frames := 1, cells := 0, slots := 0, locals := 16 } : Room)) (fun a U => a = #[(.int (400 : Int32))] ∧ Z.Warmed39 U.vm ∧ U.heap = h0) (fun _ _ _ _ _ => True) (fun _ U o U' => ∃ v L, o = .returned v ∧ Q_f22 Z a_PATH_NOT_FOUND a_METHOD_NOT_ALLOWED a_UNSUPPORTED_MEDIA_TYPE a_EXPECTATION_FAILED a_NOT_IMPLEMENTED a_HTTP_VERSION_NOT_SUPPORTED a_MALFORMED_REQUEST a_INTERNAL_ERROR h0 n0 v U'.heap L ∧ FrameEnd U o U' L ({ frames := 1, cells := 0, slots := 0, locals := 16 } : Room).cells ({ frames := 1, cells := 0, slots := 0, locals := 16 } : Room).slots) := by
  refine MetFree.of_bodySF (plainFor_of_name pn_com_example_kwota_kwota_server_ErrorReasonOfStatusPinLaw) hisR ?_
  intro p e s m args below meth c s₁ Bd hml0 hP hK
  obtain ⟨rfl, hZ, hh⟩ := hP
  have hx := Bd.exec
  have hby := Bd.bytes
  have hml : c.maxLocals = 3 := hml0
  have hown : s.vm.findClass "com/example/kwota/kwota/server/ErrorReasonOfStatusPinLaw" = some m.cls := findClass_of_methodNamed Bd.named
  have hnm := (name_of_methodNamed Bd.named Bd.method).1
  have X0 : Stand p l e ({ frames := 1, cells := 0, slots := 0, locals := 16 } : Room) s m #[(.int (400 : Int32))] below meth c s₁ [] 0 0 := Stand.of_body Bd
  have e0 : s₁.heap = h0 := by rw [← hh, Bd.state]; rfl
  have N0 := Fr.nil n0
  refine Classical.byContradiction fun hNG => ?_
  have K0 := Keep.refl h0 []
  have k0 : ∀ t, own_At p e below m s₁ 0 #[.val (.int (400 : Int32)), .unset, .unset] [] t → own_En p e below m s₁ #[(.int (400 : Int32))] 3 t := fun t k => castTop (ef_f22 m ((400 : Int32)) ) k
  obtain ⟨S_PATH_NOT_FOUND, E_PATH_NOT_FOUND, S_METHOD_NOT_ALLOWED, E_METHOD_NOT_ALLOWED, S_UNSUPPORTED_MEDIA_TYPE, E_UNSUPPORTED_MEDIA_TYPE, S_EXPECTATION_FAILED, E_EXPECTATION_FAILED, S_NOT_IMPLEMENTED, E_NOT_IMPLEMENTED, S_HTTP_VERSION_NOT_SUPPORTED, E_HTTP_VERSION_NOT_SUPPORTED, S_MALFORMED_REQUEST, E_MALFORMED_REQUEST, S_INTERNAL_ERROR, E_INTERNAL_ERROR, F_EXPECTATION_FAILED_ordinal, F_PATH_NOT_FOUND_ordinal, F_METHOD_NOT_ALLOWED_ordinal, F_UNSUPPORTED_MEDIA_TYPE_ordinal, F_MALFORMED_REQUEST_ordinal, F_NOT_IMPLEMENTED_ordinal, F_HTTP_VERSION_NOT_SUPPORTED_ordinal, F_INTERNAL_ERROR_ordinal⟩ := (id hE : EV Z a_PATH_NOT_FOUND a_METHOD_NOT_ALLOWED a_UNSUPPORTED_MEDIA_TYPE a_EXPECTATION_FAILED a_NOT_IMPLEMENTED a_HTTP_VERSION_NOT_SUPPORTED a_MALFORMED_REQUEST a_INTERNAL_ERROR)
  obtain ⟨_, _, ⟨T1, L1, k1, n1⟩, -, X1, ⟨Lc1, hQ1, l1, y1, z1⟩, st1⟩ := Jvm.LawKit.callS X0 hx (y := own_m0) hown (mvT hZ (own_w hw 27 rfl)) (mvT hZ (own_w hw 28 rfl)) (mvT hZ (own_w hw 3 rfl)) (mvT hZ (own_w hw 29 rfl)) (by decide) (backOf (W := 0) (rm_f21 l Z a0 hw []  _ _ _ _ _ _ _ _ h0 n0 O0 hE) hZ (own_w hw 29 rfl) (own_w hw 3 rfl) (by decide) (by decide)) (g := (mkF m 1 #[.val (.int (400 : Int32)), .unset, .unset] [(.int (400 : Int32))])) rfl (by rw [hml]; rfl) (argsL := [(.int (400 : Int32))]) (rest := []) (lenOf pd__I_Lcom_example_kwota_kwota_server_ErrorReason_ rfl) rfl (by show 2 * 0 + _ ≤ _; exact Nat.le_of_eq rfl) (hb hby d_method_3_code_1) (fun _ _ => ⟨rfl, e0, (by decide : 0 + 0 ≤ _), (by decide : 0 + 0 ≤ _)⟩)
  dsimp only [Pt.U, Pt.locs, Pt.cells, Pt.slots] at X1 l1 y1 z1 st1 hQ1
  subst l1 y1 z1
  obtain ⟨rfl, N1q, hp1⟩ := hQ1
  have N1 := Fr.app N0 N1q
  obtain ⟨_, _, ⟨T2, L2, k2, n2⟩, -, X2, ⟨Lc2, hQ2, l2, y2, z2⟩, st2⟩ := Jvm.LawKit.callS X1 hx (y := own_m1) hown (mvT hZ (own_w hw 20 rfl)) (mvT hZ (own_w hw 21 rfl)) (mvT hZ (own_w hw 22 rfl)) (mvT hZ (own_w hw 23 rfl)) (by decide) (backOf (W := 0) (rm_f1 l Z a0 hw []  _ _ _ _ _ _ _ _ h0 n0 O0 hE) hZ (own_w hw 23 rfl) (own_w hw 22 rfl) (by decide) (by decide)) (g := (mkF m 6 #[.val (.int (400 : Int32)), .val (.ref a_MALFORMED_REQUEST), .unset] [(.ref a_MALFORMED_REQUEST)])) rfl (by rw [hml]; rfl) (argsL := [(.ref a_MALFORMED_REQUEST)]) (rest := []) (lenOf pd__Lcom_example_kwota_kwota_server_ErrorReason__I rfl) rfl (by show 2 * 0 + _ ≤ _; exact Nat.le_of_eq rfl) (hb hby d_method_3_code_6) (fun _ _ => ⟨rfl, hp1, (by decide : 0 + 0 ≤ _), (by decide : 0 + 0 ≤ _)⟩)
  dsimp only [Pt.U, Pt.locs, Pt.cells, Pt.slots] at X2 l2 y2 z2 st2 hQ2
  subst l2 y2 z2
  obtain ⟨rfl, N2q, hp2⟩ := hQ2
  have N2 := Fr.app N1 N2q
  have k3 : ∀ t, own_At p e below m T2 22 #[.val (.int (400 : Int32)), .val (.ref a_MALFORMED_REQUEST), .val (.int (400 : Int32))] [(.int (1 : Int32))] t → own_En p e below m s₁ #[(.int (400 : Int32))] 3 t := by
    intro t k
    refine k0 t ?_
    refine XS.iloadN X0.here hx rfl (hb hby d_method_3_code_0) rfl ?_
    show own_At p e below m s₁ 1 #[.val (.int (400 : Int32)), .unset, .unset] [(.int (400 : Int32))] t
    refine st1 _ ?_
    show own_At p e below m T1 4 #[.val (.int (400 : Int32)), .unset, .unset] [(.ref a_MALFORMED_REQUEST)] t
    refine XS.astoreN X1.here hx rfl (hb hby d_method_3_code_4) rfl rfl (l' := #[.val (.int (400 : Int32)), .val (.ref a_MALFORMED_REQUEST), .unset]) rfl ?_
    show own_At p e below m T1 5 #[.val (.int (400 : Int32)), .val (.ref a_MALFORMED_REQUEST), .unset] [] t
    refine XS.aloadN X1.here hx rfl (hb hby d_method_3_code_5) rfl rfl ?_
    show own_At p e below m T1 6 #[.val (.int (400 : Int32)), .val (.ref a_MALFORMED_REQUEST), .unset] [(.ref a_MALFORMED_REQUEST)] t
    refine st2 _ ?_
    show own_At p e below m T2 9 #[.val (.int (400 : Int32)), .val (.ref a_MALFORMED_REQUEST), .unset] [(.int (400 : Int32))] t
    refine XS.istoreN X2.here hx rfl (hb hby d_method_3_code_9) rfl (l' := #[.val (.int (400 : Int32)), .val (.ref a_MALFORMED_REQUEST), .val (.int (400 : Int32))]) rfl ?_
    show own_At p e below m T2 10 #[.val (.int (400 : Int32)), .val (.ref a_MALFORMED_REQUEST), .val (.int (400 : Int32))] [] t
    refine XS.iloadN X2.here hx rfl (hb hby d_method_3_code_10) rfl ?_
    show own_At p e below m T2 11 #[.val (.int (400 : Int32)), .val (.ref a_MALFORMED_REQUEST), .val (.int (400 : Int32))] [(.int (400 : Int32))] t
    refine XS.ifYes X2.here hx rfl (pc0 := 11) (pc' := 16) rfl (hb hby d_method_3_code_11) rfl ((if0 _ _).trans (tlt (by decide : (0 : Int32) < (400 : Int32))).2.2.1) (by decide) (by decide) ?_
    show own_At p e below m T2 16 #[.val (.int (400 : Int32)), .val (.ref a_MALFORMED_REQUEST), .val (.int (400 : Int32))] [] t
    refine XS.iloadN X2.here hx rfl (hb hby d_method_3_code_16) rfl ?_
    show own_At p e below m T2 17 #[.val (.int (400 : Int32)), .val (.ref a_MALFORMED_REQUEST), .val (.int (400 : Int32))] [(.int (400 : Int32))] t
    refine XS.iloadN X2.here hx rfl (hb hby d_method_3_code_17) rfl ?_
    show own_At p e below m T2 18 #[.val (.int (400 : Int32)), .val (.ref a_MALFORMED_REQUEST), .val (.int (400 : Int32))] [(.int (400 : Int32)), (.int (400 : Int32))] t
    refine XS.icmpNo X2.here hx rfl (hb hby d_method_3_code_18) rfl (teq (by decide : (400 : Int32) = (400 : Int32))).2 ?_
    show own_At p e below m T2 21 #[.val (.int (400 : Int32)), .val (.ref a_MALFORMED_REQUEST), .val (.int (400 : Int32))] [] t
    refine XS.iconst X2.here hx rfl (hb hby d_method_3_code_21) ?_
    show own_At p e below m T2 22 #[.val (.int (400 : Int32)), .val (.ref a_MALFORMED_REQUEST), .val (.int (400 : Int32))] [(.int (1 : Int32))] t
    exact k
  obtain ⟨fs, hr, hrun, hended, hW, hsame⟩ := X2.leave (v := some (.int (1 : Int32))) (fun h => by rw [Bd.returns] at h; cases h)
  refine hNG ⟨_, _, k3 _ ?_, hrun, hended, _, _, rfl, ?_, ⟨_, rfl⟩, hW, hsame.mono (by decide) (by decide)⟩
  · exact retN X2 hx (t := .boolean) Bd.returns (by simp) (hb hby d_method_3_code_22) hr
  · show Q_f22 Z a_PATH_NOT_FOUND a_METHOD_NOT_ALLOWED a_UNSUPPORTED_MEDIA_TYPE a_EXPECTATION_FAILED a_NOT_IMPLEMENTED a_HTTP_VERSION_NOT_SUPPORTED a_MALFORMED_REQUEST a_INTERNAL_ERROR h0 n0 _ T2.heap _
    rw [hp2]
    exact ⟨rfl, N2, rfl⟩
theorem ef_f23 (m : MethodId) (x0 : Int32)  : entryFrame m #[(.int x0)] 1 = mkF m 0 #[.val (.int x0)] [] := by first | (simp [entryFrame, mkF, argsToLocals, Value.category]; done) | rfl
def Q_f23 (Z : State) (a_PATH_NOT_FOUND : Addr) (a_METHOD_NOT_ALLOWED : Addr) (a_UNSUPPORTED_MEDIA_TYPE : Addr) (a_EXPECTATION_FAILED : Addr) (a_NOT_IMPLEMENTED : Addr) (a_HTTP_VERSION_NOT_SUPPORTED : Addr) (a_MALFORMED_REQUEST : Addr) (a_INTERNAL_ERROR : Addr) (h0 : Heap) (n0 : Nat) (v : Option Value) (h : Heap) (L : List Loc) : Prop := v = some (.ref a_INTERNAL_ERROR) ∧ Fr n0 L ∧ h = h0
set_option maxRecDepth 65536 in
set_option maxHeartbeats 40000000 in
theorem rm_f23 (l : Launch) (Z : State) (a0 : Array Value) (hw : ∀ d ∈ tables_1, d.before a0 Z = true) (ws : List Jvm.Cond) (a_PATH_NOT_FOUND : Addr) (a_METHOD_NOT_ALLOWED : Addr) (a_UNSUPPORTED_MEDIA_TYPE : Addr) (a_EXPECTATION_FAILED : Addr) (a_NOT_IMPLEMENTED : Addr) (a_HTTP_VERSION_NOT_SUPPORTED : Addr) (a_MALFORMED_REQUEST : Addr) (a_INTERNAL_ERROR : Addr) (h0 : Heap) (n0 : Nat) (O0 : Old Z n0 h0) (hE : EV Z a_PATH_NOT_FOUND a_METHOD_NOT_ALLOWED a_UNSUPPORTED_MEDIA_TYPE a_EXPECTATION_FAILED a_NOT_IMPLEMENTED a_HTTP_VERSION_NOT_SUPPORTED a_MALFORMED_REQUEST a_INTERNAL_ERROR) :
    MetFree l own_m0 (head1 (Jvm.Cond.code own_m0 prog_59_method_4_code 1 (some (.object "com/example/kwota/kwota/server/ErrorReason")) :: ws) ({ frames := 0, cells := 0, slots := 0, locals := 0 } : Room)) (fun a U => a = #[(.int (500 : Int32))] ∧ Z.Warmed39 U.vm ∧ U.heap = h0) (fun _ _ _ _ _ => True) (fun _ U o U' => ∃ v L, o = .returned v ∧ Q_f23 Z a_PATH_NOT_FOUND a_METHOD_NOT_ALLOWED a_UNSUPPORTED_MEDIA_TYPE a_EXPECTATION_FAILED a_NOT_IMPLEMENTED a_HTTP_VERSION_NOT_SUPPORTED a_MALFORMED_REQUEST a_INTERNAL_ERROR h0 n0 v U'.heap L ∧ FrameEnd U o U' L ({ frames := 0, cells := 0, slots := 0, locals := 0 } : Room).cells ({ frames := 0, cells := 0, slots := 0, locals := 0 } : Room).slots) := by
  refine MetFree.of_bodySF (plainFor_of_name pn_com_example_kwota_kwota_server_ErrorReason) hisR ?_
  intro p e s m args below meth c s₁ Bd hml0 hP hK
  obtain ⟨rfl, hZ, hh⟩ := hP
  have hx := Bd.exec
  have hby := Bd.bytes
  have hml : c.maxLocals = 1 := hml0
  have hown : s.vm.findClass "com/example/kwota/kwota/server/ErrorReason" = some m.cls := findClass_of_methodNamed Bd.named
  have hnm := (name_of_methodNamed Bd.named Bd.method).1
  have X0 : Stand p l e ({ frames := 0, cells := 0, slots := 0, locals := 0 } : Room) s m #[(.int (500 : Int32))] below meth c s₁ [] 0 0 := Stand.of_body Bd
  have e0 : s₁.heap = h0 := by rw [← hh, Bd.state]; rfl
  have N0 := Fr.nil n0
  refine Classical.byContradiction fun hNG => ?_
  have K0 := Keep.refl h0 []
  have k0 : ∀ t, own_At p e below m s₁ 0 #[.val (.int (500 : Int32))] [] t → own_En p e below m s₁ #[(.int (500 : Int32))] 1 t := fun t k => castTop (ef_f23 m ((500 : Int32)) ) k
  obtain ⟨S_PATH_NOT_FOUND, E_PATH_NOT_FOUND, S_METHOD_NOT_ALLOWED, E_METHOD_NOT_ALLOWED, S_UNSUPPORTED_MEDIA_TYPE, E_UNSUPPORTED_MEDIA_TYPE, S_EXPECTATION_FAILED, E_EXPECTATION_FAILED, S_NOT_IMPLEMENTED, E_NOT_IMPLEMENTED, S_HTTP_VERSION_NOT_SUPPORTED, E_HTTP_VERSION_NOT_SUPPORTED, S_MALFORMED_REQUEST, E_MALFORMED_REQUEST, S_INTERNAL_ERROR, E_INTERNAL_ERROR, F_EXPECTATION_FAILED_ordinal, F_PATH_NOT_FOUND_ordinal, F_METHOD_NOT_ALLOWED_ordinal, F_UNSUPPORTED_MEDIA_TYPE_ordinal, F_MALFORMED_REQUEST_ordinal, F_NOT_IMPLEMENTED_ordinal, F_HTTP_VERSION_NOT_SUPPORTED_ordinal, F_INTERNAL_ERROR_ordinal⟩ := (id hE : EV Z a_PATH_NOT_FOUND a_METHOD_NOT_ALLOWED a_UNSUPPORTED_MEDIA_TYPE a_EXPECTATION_FAILED a_NOT_IMPLEMENTED a_HTTP_VERSION_NOT_SUPPORTED a_MALFORMED_REQUEST a_INTERNAL_ERROR)
  obtain ⟨T1, X1, e1, st1⟩ := getS2 X0 hx hZ hown (host := "") (Or.inl (own_w hw 36 rfl)) Via.refl e0 (S_INTERNAL_ERROR.ext O0.2) (g := (mkF m 91 #[.val (.int (500 : Int32))] [])) rfl (hb hby d_prog_59_method_4_code_91)
  have k2 : ∀ t, own_At p e below m T1 100 #[.val (.int (500 : Int32))] [(.ref a_INTERNAL_ERROR)] t → own_En p e below m s₁ #[(.int (500 : Int32))] 1 t := by
    intro t k
    refine k0 t ?_
    refine XS.iloadN X0.here hx rfl (hb hby d_prog_59_method_4_code_0) rfl ?_
    show own_At p e below m s₁ 1 #[.val (.int (500 : Int32))] [(.int (500 : Int32))] t
    refine own_lsw X0.here hx rfl (pc0 := 1) (pc' := 84) rfl (hb hby d_prog_59_method_4_code_1) rfl (by decide) (o := 83) (by decide) (by decide) (by decide) ?_
    show own_At p e below m s₁ 84 #[.val (.int (500 : Int32))] [] t
    refine XS.iloadN X0.here hx rfl (hb hby d_prog_59_method_4_code_84) rfl ?_
    show own_At p e below m s₁ 85 #[.val (.int (500 : Int32))] [(.int (500 : Int32))] t
    refine XS.sipush X0.here hx rfl (hb hby d_prog_59_method_4_code_85) ?_
    show own_At p e below m s₁ 88 #[.val (.int (500 : Int32))] [(.int (500 : Int32)), (.int (500 : Int32))] t
    refine XS.icmpNo X0.here hx rfl (hb hby d_prog_59_method_4_code_88) rfl (flt (by decide : ¬ ((500 : Int32) < (500 : Int32)))).1 ?_
    show own_At p e below m s₁ 91 #[.val (.int (500 : Int32))] [] t
    refine st1 _ ?_
    show own_At p e below m T1 94 #[.val (.int (500 : Int32))] [(.ref a_INTERNAL_ERROR)] t
    refine XS.goto X1.here hx rfl (pc0 := 94) (pc' := 100) rfl (hb hby d_prog_59_method_4_code_94) (by decide) (by decide) ?_
    show own_At p e below m T1 100 #[.val (.int (500 : Int32))] [(.ref a_INTERNAL_ERROR)] t
    exact k
  obtain ⟨fs, hr, hrun, hended, hW, hsame⟩ := X1.leave (v := some (.ref a_INTERNAL_ERROR)) (fun h => by rw [Bd.returns] at h; cases h)
  refine hNG ⟨_, _, k2 _ ?_, hrun, hended, _, _, rfl, ?_, ⟨_, rfl⟩, hW, hsame.mono (by decide) (by decide)⟩
  · exact retOut X1 hx (t := (.object "com/example/kwota/kwota/server/ErrorReason")) Bd.returns rfl (Or.inr (Or.inr (Or.inr (Or.inr ⟨rfl, rfl, rfl⟩)))) (hb hby d_prog_59_method_4_code_100) hr
  · show Q_f23 Z a_PATH_NOT_FOUND a_METHOD_NOT_ALLOWED a_UNSUPPORTED_MEDIA_TYPE a_EXPECTATION_FAILED a_NOT_IMPLEMENTED a_HTTP_VERSION_NOT_SUPPORTED a_MALFORMED_REQUEST a_INTERNAL_ERROR h0 n0 _ T1.heap _
    rw [e1]
    exact ⟨rfl, N0, rfl⟩
theorem ef_f24 (m : MethodId) (x0 : Int32)  : entryFrame m #[(.int x0)] 3 = mkF m 0 #[.val (.int x0), .unset, .unset] [] := by first | (simp [entryFrame, mkF, argsToLocals, Value.category]; done) | rfl
def Q_f24 (Z : State) (a_PATH_NOT_FOUND : Addr) (a_METHOD_NOT_ALLOWED : Addr) (a_UNSUPPORTED_MEDIA_TYPE : Addr) (a_EXPECTATION_FAILED : Addr) (a_NOT_IMPLEMENTED : Addr) (a_HTTP_VERSION_NOT_SUPPORTED : Addr) (a_MALFORMED_REQUEST : Addr) (a_INTERNAL_ERROR : Addr) (h0 : Heap) (n0 : Nat) (v : Option Value) (h : Heap) (L : List Loc) : Prop := v = some (.int (1 : Int32)) ∧ Fr n0 L ∧ h = h0
set_option maxRecDepth 65536 in
set_option maxHeartbeats 40000000 in
theorem rm_f24 (l : Launch) (Z : State) (a0 : Array Value) (hw : ∀ d ∈ tables_1, d.before a0 Z = true) (ws : List Jvm.Cond) (a_PATH_NOT_FOUND : Addr) (a_METHOD_NOT_ALLOWED : Addr) (a_UNSUPPORTED_MEDIA_TYPE : Addr) (a_EXPECTATION_FAILED : Addr) (a_NOT_IMPLEMENTED : Addr) (a_HTTP_VERSION_NOT_SUPPORTED : Addr) (a_MALFORMED_REQUEST : Addr) (a_INTERNAL_ERROR : Addr) (h0 : Heap) (n0 : Nat) (O0 : Old Z n0 h0) (hE : EV Z a_PATH_NOT_FOUND a_METHOD_NOT_ALLOWED a_UNSUPPORTED_MEDIA_TYPE a_EXPECTATION_FAILED a_NOT_IMPLEMENTED a_HTTP_VERSION_NOT_SUPPORTED a_MALFORMED_REQUEST a_INTERNAL_ERROR) :
    MetFree l own_m2 (head1 (Jvm.Cond.code own_m2 method_3_code 3 (some .boolean) :: ws) ({ frames := 1, cells := 0, slots := 0, locals := 16 } : Room)) (fun a U => a = #[(.int (500 : Int32))] ∧ Z.Warmed39 U.vm ∧ U.heap = h0) (fun _ _ _ _ _ => True) (fun _ U o U' => ∃ v L, o = .returned v ∧ Q_f24 Z a_PATH_NOT_FOUND a_METHOD_NOT_ALLOWED a_UNSUPPORTED_MEDIA_TYPE a_EXPECTATION_FAILED a_NOT_IMPLEMENTED a_HTTP_VERSION_NOT_SUPPORTED a_MALFORMED_REQUEST a_INTERNAL_ERROR h0 n0 v U'.heap L ∧ FrameEnd U o U' L ({ frames := 1, cells := 0, slots := 0, locals := 16 } : Room).cells ({ frames := 1, cells := 0, slots := 0, locals := 16 } : Room).slots) := by
  refine MetFree.of_bodySF (plainFor_of_name pn_com_example_kwota_kwota_server_ErrorReasonOfStatusPinLaw) hisR ?_
  intro p e s m args below meth c s₁ Bd hml0 hP hK
  obtain ⟨rfl, hZ, hh⟩ := hP
  have hx := Bd.exec
  have hby := Bd.bytes
  have hml : c.maxLocals = 3 := hml0
  have hown : s.vm.findClass "com/example/kwota/kwota/server/ErrorReasonOfStatusPinLaw" = some m.cls := findClass_of_methodNamed Bd.named
  have hnm := (name_of_methodNamed Bd.named Bd.method).1
  have X0 : Stand p l e ({ frames := 1, cells := 0, slots := 0, locals := 16 } : Room) s m #[(.int (500 : Int32))] below meth c s₁ [] 0 0 := Stand.of_body Bd
  have e0 : s₁.heap = h0 := by rw [← hh, Bd.state]; rfl
  have N0 := Fr.nil n0
  refine Classical.byContradiction fun hNG => ?_
  have K0 := Keep.refl h0 []
  have k0 : ∀ t, own_At p e below m s₁ 0 #[.val (.int (500 : Int32)), .unset, .unset] [] t → own_En p e below m s₁ #[(.int (500 : Int32))] 3 t := fun t k => castTop (ef_f24 m ((500 : Int32)) ) k
  obtain ⟨S_PATH_NOT_FOUND, E_PATH_NOT_FOUND, S_METHOD_NOT_ALLOWED, E_METHOD_NOT_ALLOWED, S_UNSUPPORTED_MEDIA_TYPE, E_UNSUPPORTED_MEDIA_TYPE, S_EXPECTATION_FAILED, E_EXPECTATION_FAILED, S_NOT_IMPLEMENTED, E_NOT_IMPLEMENTED, S_HTTP_VERSION_NOT_SUPPORTED, E_HTTP_VERSION_NOT_SUPPORTED, S_MALFORMED_REQUEST, E_MALFORMED_REQUEST, S_INTERNAL_ERROR, E_INTERNAL_ERROR, F_EXPECTATION_FAILED_ordinal, F_PATH_NOT_FOUND_ordinal, F_METHOD_NOT_ALLOWED_ordinal, F_UNSUPPORTED_MEDIA_TYPE_ordinal, F_MALFORMED_REQUEST_ordinal, F_NOT_IMPLEMENTED_ordinal, F_HTTP_VERSION_NOT_SUPPORTED_ordinal, F_INTERNAL_ERROR_ordinal⟩ := (id hE : EV Z a_PATH_NOT_FOUND a_METHOD_NOT_ALLOWED a_UNSUPPORTED_MEDIA_TYPE a_EXPECTATION_FAILED a_NOT_IMPLEMENTED a_HTTP_VERSION_NOT_SUPPORTED a_MALFORMED_REQUEST a_INTERNAL_ERROR)
  obtain ⟨_, _, ⟨T1, L1, k1, n1⟩, -, X1, ⟨Lc1, hQ1, l1, y1, z1⟩, st1⟩ := Jvm.LawKit.callS X0 hx (y := own_m0) hown (mvT hZ (own_w hw 27 rfl)) (mvT hZ (own_w hw 28 rfl)) (mvT hZ (own_w hw 3 rfl)) (mvT hZ (own_w hw 29 rfl)) (by decide) (backOf (W := 0) (rm_f23 l Z a0 hw []  _ _ _ _ _ _ _ _ h0 n0 O0 hE) hZ (own_w hw 29 rfl) (own_w hw 3 rfl) (by decide) (by decide)) (g := (mkF m 1 #[.val (.int (500 : Int32)), .unset, .unset] [(.int (500 : Int32))])) rfl (by rw [hml]; rfl) (argsL := [(.int (500 : Int32))]) (rest := []) (lenOf pd__I_Lcom_example_kwota_kwota_server_ErrorReason_ rfl) rfl (by show 2 * 0 + _ ≤ _; exact Nat.le_of_eq rfl) (hb hby d_method_3_code_1) (fun _ _ => ⟨rfl, e0, (by decide : 0 + 0 ≤ _), (by decide : 0 + 0 ≤ _)⟩)
  dsimp only [Pt.U, Pt.locs, Pt.cells, Pt.slots] at X1 l1 y1 z1 st1 hQ1
  subst l1 y1 z1
  obtain ⟨rfl, N1q, hp1⟩ := hQ1
  have N1 := Fr.app N0 N1q
  obtain ⟨_, _, ⟨T2, L2, k2, n2⟩, -, X2, ⟨Lc2, hQ2, l2, y2, z2⟩, st2⟩ := Jvm.LawKit.callS X1 hx (y := own_m1) hown (mvT hZ (own_w hw 20 rfl)) (mvT hZ (own_w hw 21 rfl)) (mvT hZ (own_w hw 22 rfl)) (mvT hZ (own_w hw 23 rfl)) (by decide) (backOf (W := 0) (rm_f2 l Z a0 hw []  _ _ _ _ _ _ _ _ h0 n0 O0 hE) hZ (own_w hw 23 rfl) (own_w hw 22 rfl) (by decide) (by decide)) (g := (mkF m 6 #[.val (.int (500 : Int32)), .val (.ref a_INTERNAL_ERROR), .unset] [(.ref a_INTERNAL_ERROR)])) rfl (by rw [hml]; rfl) (argsL := [(.ref a_INTERNAL_ERROR)]) (rest := []) (lenOf pd__Lcom_example_kwota_kwota_server_ErrorReason__I rfl) rfl (by show 2 * 0 + _ ≤ _; exact Nat.le_of_eq rfl) (hb hby d_method_3_code_6) (fun _ _ => ⟨rfl, hp1, (by decide : 0 + 0 ≤ _), (by decide : 0 + 0 ≤ _)⟩)
  dsimp only [Pt.U, Pt.locs, Pt.cells, Pt.slots] at X2 l2 y2 z2 st2 hQ2
  subst l2 y2 z2
  obtain ⟨rfl, N2q, hp2⟩ := hQ2
  have N2 := Fr.app N1 N2q
  have k3 : ∀ t, own_At p e below m T2 22 #[.val (.int (500 : Int32)), .val (.ref a_INTERNAL_ERROR), .val (.int (500 : Int32))] [(.int (1 : Int32))] t → own_En p e below m s₁ #[(.int (500 : Int32))] 3 t := by
    intro t k
    refine k0 t ?_
    refine XS.iloadN X0.here hx rfl (hb hby d_method_3_code_0) rfl ?_
    show own_At p e below m s₁ 1 #[.val (.int (500 : Int32)), .unset, .unset] [(.int (500 : Int32))] t
    refine st1 _ ?_
    show own_At p e below m T1 4 #[.val (.int (500 : Int32)), .unset, .unset] [(.ref a_INTERNAL_ERROR)] t
    refine XS.astoreN X1.here hx rfl (hb hby d_method_3_code_4) rfl rfl (l' := #[.val (.int (500 : Int32)), .val (.ref a_INTERNAL_ERROR), .unset]) rfl ?_
    show own_At p e below m T1 5 #[.val (.int (500 : Int32)), .val (.ref a_INTERNAL_ERROR), .unset] [] t
    refine XS.aloadN X1.here hx rfl (hb hby d_method_3_code_5) rfl rfl ?_
    show own_At p e below m T1 6 #[.val (.int (500 : Int32)), .val (.ref a_INTERNAL_ERROR), .unset] [(.ref a_INTERNAL_ERROR)] t
    refine st2 _ ?_
    show own_At p e below m T2 9 #[.val (.int (500 : Int32)), .val (.ref a_INTERNAL_ERROR), .unset] [(.int (500 : Int32))] t
    refine XS.istoreN X2.here hx rfl (hb hby d_method_3_code_9) rfl (l' := #[.val (.int (500 : Int32)), .val (.ref a_INTERNAL_ERROR), .val (.int (500 : Int32))]) rfl ?_
    show own_At p e below m T2 10 #[.val (.int (500 : Int32)), .val (.ref a_INTERNAL_ERROR), .val (.int (500 : Int32))] [] t
    refine XS.iloadN X2.here hx rfl (hb hby d_method_3_code_10) rfl ?_
    show own_At p e below m T2 11 #[.val (.int (500 : Int32)), .val (.ref a_INTERNAL_ERROR), .val (.int (500 : Int32))] [(.int (500 : Int32))] t
    refine XS.ifYes X2.here hx rfl (pc0 := 11) (pc' := 16) rfl (hb hby d_method_3_code_11) rfl ((if0 _ _).trans (tlt (by decide : (0 : Int32) < (500 : Int32))).2.2.1) (by decide) (by decide) ?_
    show own_At p e below m T2 16 #[.val (.int (500 : Int32)), .val (.ref a_INTERNAL_ERROR), .val (.int (500 : Int32))] [] t
    refine XS.iloadN X2.here hx rfl (hb hby d_method_3_code_16) rfl ?_
    show own_At p e below m T2 17 #[.val (.int (500 : Int32)), .val (.ref a_INTERNAL_ERROR), .val (.int (500 : Int32))] [(.int (500 : Int32))] t
    refine XS.iloadN X2.here hx rfl (hb hby d_method_3_code_17) rfl ?_
    show own_At p e below m T2 18 #[.val (.int (500 : Int32)), .val (.ref a_INTERNAL_ERROR), .val (.int (500 : Int32))] [(.int (500 : Int32)), (.int (500 : Int32))] t
    refine XS.icmpNo X2.here hx rfl (hb hby d_method_3_code_18) rfl (teq (by decide : (500 : Int32) = (500 : Int32))).2 ?_
    show own_At p e below m T2 21 #[.val (.int (500 : Int32)), .val (.ref a_INTERNAL_ERROR), .val (.int (500 : Int32))] [] t
    refine XS.iconst X2.here hx rfl (hb hby d_method_3_code_21) ?_
    show own_At p e below m T2 22 #[.val (.int (500 : Int32)), .val (.ref a_INTERNAL_ERROR), .val (.int (500 : Int32))] [(.int (1 : Int32))] t
    exact k
  obtain ⟨fs, hr, hrun, hended, hW, hsame⟩ := X2.leave (v := some (.int (1 : Int32))) (fun h => by rw [Bd.returns] at h; cases h)
  refine hNG ⟨_, _, k3 _ ?_, hrun, hended, _, _, rfl, ?_, ⟨_, rfl⟩, hW, hsame.mono (by decide) (by decide)⟩
  · exact retN X2 hx (t := .boolean) Bd.returns (by simp) (hb hby d_method_3_code_22) hr
  · show Q_f24 Z a_PATH_NOT_FOUND a_METHOD_NOT_ALLOWED a_UNSUPPORTED_MEDIA_TYPE a_EXPECTATION_FAILED a_NOT_IMPLEMENTED a_HTTP_VERSION_NOT_SUPPORTED a_MALFORMED_REQUEST a_INTERNAL_ERROR h0 n0 _ T2.heap _
    rw [hp2]
    exact ⟨rfl, N2, rfl⟩
def Q_law (Z : State) (p0 : Int32) (p1 : Int32) (a_PATH_NOT_FOUND : Addr) (a_METHOD_NOT_ALLOWED : Addr) (a_UNSUPPORTED_MEDIA_TYPE : Addr) (a_EXPECTATION_FAILED : Addr) (a_NOT_IMPLEMENTED : Addr) (a_HTTP_VERSION_NOT_SUPPORTED : Addr) (a_MALFORMED_REQUEST : Addr) (a_INTERNAL_ERROR : Addr) (h0 : Heap) (n0 : Nat) (v : Option Value) (h : Heap) (L : List Loc) : Prop := v = some (.int (1 : Int32)) ∧ Fr n0 L
set_option maxRecDepth 65536 in
set_option maxHeartbeats 40000000 in
theorem rm_law (l : Launch) (Z : State) (a0 : Array Value) (hw : ∀ d ∈ tables_1, d.before a0 Z = true) (ws : List Jvm.Cond) (p0 : Int32) (p1 : Int32) (a_PATH_NOT_FOUND : Addr) (a_METHOD_NOT_ALLOWED : Addr) (a_UNSUPPORTED_MEDIA_TYPE : Addr) (a_EXPECTATION_FAILED : Addr) (a_NOT_IMPLEMENTED : Addr) (a_HTTP_VERSION_NOT_SUPPORTED : Addr) (a_MALFORMED_REQUEST : Addr) (a_INTERNAL_ERROR : Addr) (h0 : Heap) (n0 : Nat) (O0 : Old Z n0 h0) (hE : EV Z a_PATH_NOT_FOUND a_METHOD_NOT_ALLOWED a_UNSUPPORTED_MEDIA_TYPE a_EXPECTATION_FAILED a_NOT_IMPLEMENTED a_HTTP_VERSION_NOT_SUPPORTED a_MALFORMED_REQUEST a_INTERNAL_ERROR) :
    MetFree l x (head1 (Jvm.Cond.code x code maxLocals ret :: ws) room_1) (fun a U => a = #[(.int p0), (.int p1)] ∧ Z.Warmed39 U.vm ∧ U.heap = h0) (fun _ _ _ _ _ => True) (fun _ U o U' => ∃ v L, o = .returned v ∧ Q_law Z p0 p1 a_PATH_NOT_FOUND a_METHOD_NOT_ALLOWED a_UNSUPPORTED_MEDIA_TYPE a_EXPECTATION_FAILED a_NOT_IMPLEMENTED a_HTTP_VERSION_NOT_SUPPORTED a_MALFORMED_REQUEST a_INTERNAL_ERROR h0 n0 v U'.heap L ∧ FrameEnd U o U' L 1 8) := by
  refine MetFree.of_bodySF (plainFor_of_name pn_com_example_kwota_kwota_server_ErrorReasonOfStatusPinLaw) hisR ?_
  intro p e s m args below meth c s₁ Bd hml0 hP hK
  obtain ⟨rfl, hZ, hh⟩ := hP
  have hx := Bd.exec
  have hby := Bd.bytes
  have hml : c.maxLocals = 5 := hml0
  have hown : s.vm.findClass "com/example/kwota/kwota/server/ErrorReasonOfStatusPinLaw" = some m.cls := findClass_of_methodNamed Bd.named
  have hnm := (name_of_methodNamed Bd.named Bd.method).1
  have X0 : Stand p l e room_1 s m #[(.int p0), (.int p1)] below meth c s₁ [] 0 0 := Stand.of_body Bd
  have e0 : s₁.heap = h0 := by rw [← hh, Bd.state]; rfl
  have N0 := Fr.nil n0
  refine Classical.byContradiction fun hNG => ?_
  have K0 := Keep.refl h0 []
  have k0 : ∀ t, own_At p e below m s₁ 0 #[.val (.int p0), .val (.int p1), .unset, .unset, .unset] [] t → own_En p e below m s₁ #[(.int p0), (.int p1)] maxLocals t := fun t k => castTop (ef_law m p0 p1 ) k
  obtain ⟨S_PATH_NOT_FOUND, E_PATH_NOT_FOUND, S_METHOD_NOT_ALLOWED, E_METHOD_NOT_ALLOWED, S_UNSUPPORTED_MEDIA_TYPE, E_UNSUPPORTED_MEDIA_TYPE, S_EXPECTATION_FAILED, E_EXPECTATION_FAILED, S_NOT_IMPLEMENTED, E_NOT_IMPLEMENTED, S_HTTP_VERSION_NOT_SUPPORTED, E_HTTP_VERSION_NOT_SUPPORTED, S_MALFORMED_REQUEST, E_MALFORMED_REQUEST, S_INTERNAL_ERROR, E_INTERNAL_ERROR, F_EXPECTATION_FAILED_ordinal, F_PATH_NOT_FOUND_ordinal, F_METHOD_NOT_ALLOWED_ordinal, F_UNSUPPORTED_MEDIA_TYPE_ordinal, F_MALFORMED_REQUEST_ordinal, F_NOT_IMPLEMENTED_ordinal, F_HTTP_VERSION_NOT_SUPPORTED_ordinal, F_INTERNAL_ERROR_ordinal⟩ := (id hE : EV Z a_PATH_NOT_FOUND a_METHOD_NOT_ALLOWED a_UNSUPPORTED_MEDIA_TYPE a_EXPECTATION_FAILED a_NOT_IMPLEMENTED a_HTTP_VERSION_NOT_SUPPORTED a_MALFORMED_REQUEST a_INTERNAL_ERROR)
  obtain ⟨T1, h1, c1, X1, e1, E1, A1, Ov1, st1⟩ := newR X0 hx hZ hown (own_w hw 0 rfl) (own_w hw 1 rfl) e0 (g := (mkF m 2 #[.val (.int p0), .val (.int p1), .unset, .unset, .unset] [(.int (8 : Int32))])) rfl (hb hby at_2) rfl (by decide) (cap := 8) (by decide) (by decide) (by decide) (by decide)
  obtain ⟨b1, g1⟩ : ∃ z, z = h0.size := ⟨_, rfl⟩
  rw [← g1] at A1 st1
  have O1 := O0.ext E1
  have g_b1 : n0 ≤ b1 := Nat.le_trans (Nat.le_of_eq O0.1.symm) (Nat.le_trans O0.2.1 (Nat.le_of_eq g1.symm))
  have s_b1 : h0.size ≤ b1 := Nat.le_trans K0.1 (Nat.le_of_eq g1.symm)
  have K1 := K0.ext E1
  have V1 : Arv Z h1 b1 c1 (.object "com/example/kwota/kwota/server/ErrorReason") (8 : Int32) [.null, .null, .null, .null, .null, .null, .null, .null] .null := (Arv.new A1 (by decide)).pad (pad_rep [] .null 8)
  have lt_b1 := V1.lt
  obtain ⟨T2, X2, e2, st2⟩ := getS2 X1 hx hZ hown (host := "") (Or.inl (own_w hw 2 rfl)) Via.refl e1 (S_PATH_NOT_FOUND.ext O1.2) (g := (mkF m 7 #[.val (.int p0), .val (.int p1), .unset, .unset, .unset] [(.int (0 : Int32)), (.ref b1), (.ref b1)])) rfl (hb hby at_7)
  obtain ⟨cl3, Ar3, q3, Sz3, Nn3, Hs3, Gf3⟩ := id V1
  have hin4 : ¬ ((0 : Int32) < 0 ∨ cl3.slots.size ≤ ((0 : Int32)).toNatClampNeg) := inb_of Sz3 ⟨by decide, by decide⟩
  obtain ⟨T5, h5, X5, e5, W5, st5⟩ := stR X2 hx hZ e2 Ar3 (j := (0 : Int32)) hin4 rfl (Sto.ofV Ar3 q3 Ov1 (Ins.self (E_PATH_NOT_FOUND.ext O1.2))) (g := (mkF m 10 #[.val (.int p0), .val (.int p1), .unset, .unset, .unset] [(.ref a_PATH_NOT_FOUND), (.int (0 : Int32)), (.ref b1), (.ref b1)])) rfl rfl (hb hby at_10)
  have V5 : Arv Z h5 b1 c1 (.object "com/example/kwota/kwota/server/ErrorReason") (8 : Int32) [(.ref a_PATH_NOT_FOUND), .null, .null, .null, .null, .null, .null, .null] .null := Arv.set Ar3 q3 Sz3 Nn3 Hs3 Gf3 rfl W5 0 rfl (Nat.le_of_ble_eq_true rfl)
  have N5 := Fr.snoc X5 N0 g_b1
  have O5 := O1.wr W5 g_b1
  have K5 := K1.wr W5 (Or.inr s_b1)
  obtain ⟨T6, X6, e6, st6⟩ := getS2 X5 hx hZ hown (host := "") (Or.inl (own_w hw 6 rfl)) Via.refl e5 (S_METHOD_NOT_ALLOWED.ext O5.2) (g := (mkF m 13 #[.val (.int p0), .val (.int p1), .unset, .unset, .unset] [(.int (1 : Int32)), (.ref b1), (.ref b1)])) rfl (hb hby at_13)
  obtain ⟨cl7, Ar7, q7, Sz7, Nn7, Hs7, Gf7⟩ := id V5
  have hin8 : ¬ ((1 : Int32) < 0 ∨ cl7.slots.size ≤ ((1 : Int32)).toNatClampNeg) := inb_of Sz7 ⟨by decide, by decide⟩
  obtain ⟨T9, h9, X9, e9, W9, st9⟩ := stR X6 hx hZ e6 Ar7 (j := (1 : Int32)) hin8 rfl (Sto.ofV Ar7 q7 Ov1 (Ins.self (E_METHOD_NOT_ALLOWED.ext O5.2))) (g := (mkF m 16 #[.val (.int p0), .val (.int p1), .unset, .unset, .unset] [(.ref a_METHOD_NOT_ALLOWED), (.int (1 : Int32)), (.ref b1), (.ref b1)])) rfl rfl (hb hby at_16)
  have V9 : Arv Z h9 b1 c1 (.object "com/example/kwota/kwota/server/ErrorReason") (8 : Int32) [(.ref a_PATH_NOT_FOUND), (.ref a_METHOD_NOT_ALLOWED), .null, .null, .null, .null, .null, .null] .null := Arv.set Ar7 q7 Sz7 Nn7 Hs7 Gf7 rfl W9 1 rfl (Nat.le_of_ble_eq_true rfl)
  have N9 := Fr.snoc X9 N5 g_b1
  have O9 := O5.wr W9 g_b1
  have K9 := K5.wr W9 (Or.inr s_b1)
  obtain ⟨T10, X10, e10, st10⟩ := getS2 X9 hx hZ hown (host := "") (Or.inl (own_w hw 8 rfl)) Via.refl e9 (S_UNSUPPORTED_MEDIA_TYPE.ext O9.2) (g := (mkF m 19 #[.val (.int p0), .val (.int p1), .unset, .unset, .unset] [(.int (2 : Int32)), (.ref b1), (.ref b1)])) rfl (hb hby at_19)
  obtain ⟨cl11, Ar11, q11, Sz11, Nn11, Hs11, Gf11⟩ := id V9
  have hin12 : ¬ ((2 : Int32) < 0 ∨ cl11.slots.size ≤ ((2 : Int32)).toNatClampNeg) := inb_of Sz11 ⟨by decide, by decide⟩
  obtain ⟨T13, h13, X13, e13, W13, st13⟩ := stR X10 hx hZ e10 Ar11 (j := (2 : Int32)) hin12 rfl (Sto.ofV Ar11 q11 Ov1 (Ins.self (E_UNSUPPORTED_MEDIA_TYPE.ext O9.2))) (g := (mkF m 22 #[.val (.int p0), .val (.int p1), .unset, .unset, .unset] [(.ref a_UNSUPPORTED_MEDIA_TYPE), (.int (2 : Int32)), (.ref b1), (.ref b1)])) rfl rfl (hb hby at_22)
  have V13 : Arv Z h13 b1 c1 (.object "com/example/kwota/kwota/server/ErrorReason") (8 : Int32) [(.ref a_PATH_NOT_FOUND), (.ref a_METHOD_NOT_ALLOWED), (.ref a_UNSUPPORTED_MEDIA_TYPE), .null, .null, .null, .null, .null] .null := Arv.set Ar11 q11 Sz11 Nn11 Hs11 Gf11 rfl W13 2 rfl (Nat.le_of_ble_eq_true rfl)
  have N13 := Fr.snoc X13 N9 g_b1
  have O13 := O9.wr W13 g_b1
  have K13 := K9.wr W13 (Or.inr s_b1)
  obtain ⟨T14, X14, e14, st14⟩ := getS2 X13 hx hZ hown (host := "") (Or.inl (own_w hw 10 rfl)) Via.refl e13 (S_EXPECTATION_FAILED.ext O13.2) (g := (mkF m 25 #[.val (.int p0), .val (.int p1), .unset, .unset, .unset] [(.int (3 : Int32)), (.ref b1), (.ref b1)])) rfl (hb hby at_25)
  obtain ⟨cl15, Ar15, q15, Sz15, Nn15, Hs15, Gf15⟩ := id V13
  have hin16 : ¬ ((3 : Int32) < 0 ∨ cl15.slots.size ≤ ((3 : Int32)).toNatClampNeg) := inb_of Sz15 ⟨by decide, by decide⟩
  obtain ⟨T17, h17, X17, e17, W17, st17⟩ := stR X14 hx hZ e14 Ar15 (j := (3 : Int32)) hin16 rfl (Sto.ofV Ar15 q15 Ov1 (Ins.self (E_EXPECTATION_FAILED.ext O13.2))) (g := (mkF m 28 #[.val (.int p0), .val (.int p1), .unset, .unset, .unset] [(.ref a_EXPECTATION_FAILED), (.int (3 : Int32)), (.ref b1), (.ref b1)])) rfl rfl (hb hby at_28)
  have V17 : Arv Z h17 b1 c1 (.object "com/example/kwota/kwota/server/ErrorReason") (8 : Int32) [(.ref a_PATH_NOT_FOUND), (.ref a_METHOD_NOT_ALLOWED), (.ref a_UNSUPPORTED_MEDIA_TYPE), (.ref a_EXPECTATION_FAILED), .null, .null, .null, .null] .null := Arv.set Ar15 q15 Sz15 Nn15 Hs15 Gf15 rfl W17 3 rfl (Nat.le_of_ble_eq_true rfl)
  have N17 := Fr.snoc X17 N13 g_b1
  have O17 := O13.wr W17 g_b1
  have K17 := K13.wr W17 (Or.inr s_b1)
  obtain ⟨T18, X18, e18, st18⟩ := getS2 X17 hx hZ hown (host := "") (Or.inl (own_w hw 12 rfl)) Via.refl e17 (S_NOT_IMPLEMENTED.ext O17.2) (g := (mkF m 31 #[.val (.int p0), .val (.int p1), .unset, .unset, .unset] [(.int (4 : Int32)), (.ref b1), (.ref b1)])) rfl (hb hby at_31)
  obtain ⟨cl19, Ar19, q19, Sz19, Nn19, Hs19, Gf19⟩ := id V17
  have hin20 : ¬ ((4 : Int32) < 0 ∨ cl19.slots.size ≤ ((4 : Int32)).toNatClampNeg) := inb_of Sz19 ⟨by decide, by decide⟩
  obtain ⟨T21, h21, X21, e21, W21, st21⟩ := stR X18 hx hZ e18 Ar19 (j := (4 : Int32)) hin20 rfl (Sto.ofV Ar19 q19 Ov1 (Ins.self (E_NOT_IMPLEMENTED.ext O17.2))) (g := (mkF m 34 #[.val (.int p0), .val (.int p1), .unset, .unset, .unset] [(.ref a_NOT_IMPLEMENTED), (.int (4 : Int32)), (.ref b1), (.ref b1)])) rfl rfl (hb hby at_34)
  have V21 : Arv Z h21 b1 c1 (.object "com/example/kwota/kwota/server/ErrorReason") (8 : Int32) [(.ref a_PATH_NOT_FOUND), (.ref a_METHOD_NOT_ALLOWED), (.ref a_UNSUPPORTED_MEDIA_TYPE), (.ref a_EXPECTATION_FAILED), (.ref a_NOT_IMPLEMENTED), .null, .null, .null] .null := Arv.set Ar19 q19 Sz19 Nn19 Hs19 Gf19 rfl W21 4 rfl (Nat.le_of_ble_eq_true rfl)
  have N21 := Fr.snoc X21 N17 g_b1
  have O21 := O17.wr W21 g_b1
  have K21 := K17.wr W21 (Or.inr s_b1)
  obtain ⟨T22, X22, e22, st22⟩ := getS2 X21 hx hZ hown (host := "") (Or.inl (own_w hw 14 rfl)) Via.refl e21 (S_HTTP_VERSION_NOT_SUPPORTED.ext O21.2) (g := (mkF m 37 #[.val (.int p0), .val (.int p1), .unset, .unset, .unset] [(.int (5 : Int32)), (.ref b1), (.ref b1)])) rfl (hb hby at_37)
  obtain ⟨cl23, Ar23, q23, Sz23, Nn23, Hs23, Gf23⟩ := id V21
  have hin24 : ¬ ((5 : Int32) < 0 ∨ cl23.slots.size ≤ ((5 : Int32)).toNatClampNeg) := inb_of Sz23 ⟨by decide, by decide⟩
  obtain ⟨T25, h25, X25, e25, W25, st25⟩ := stR X22 hx hZ e22 Ar23 (j := (5 : Int32)) hin24 rfl (Sto.ofV Ar23 q23 Ov1 (Ins.self (E_HTTP_VERSION_NOT_SUPPORTED.ext O21.2))) (g := (mkF m 40 #[.val (.int p0), .val (.int p1), .unset, .unset, .unset] [(.ref a_HTTP_VERSION_NOT_SUPPORTED), (.int (5 : Int32)), (.ref b1), (.ref b1)])) rfl rfl (hb hby at_40)
  have V25 : Arv Z h25 b1 c1 (.object "com/example/kwota/kwota/server/ErrorReason") (8 : Int32) [(.ref a_PATH_NOT_FOUND), (.ref a_METHOD_NOT_ALLOWED), (.ref a_UNSUPPORTED_MEDIA_TYPE), (.ref a_EXPECTATION_FAILED), (.ref a_NOT_IMPLEMENTED), (.ref a_HTTP_VERSION_NOT_SUPPORTED), .null, .null] .null := Arv.set Ar23 q23 Sz23 Nn23 Hs23 Gf23 rfl W25 5 rfl (Nat.le_of_ble_eq_true rfl)
  have N25 := Fr.snoc X25 N21 g_b1
  have O25 := O21.wr W25 g_b1
  have K25 := K21.wr W25 (Or.inr s_b1)
  obtain ⟨T26, X26, e26, st26⟩ := getS2 X25 hx hZ hown (host := "") (Or.inl (own_w hw 16 rfl)) Via.refl e25 (S_MALFORMED_REQUEST.ext O25.2) (g := (mkF m 44 #[.val (.int p0), .val (.int p1), .unset, .unset, .unset] [(.int (6 : Int32)), (.ref b1), (.ref b1)])) rfl (hb hby at_44)
  obtain ⟨cl27, Ar27, q27, Sz27, Nn27, Hs27, Gf27⟩ := id V25
  have hin28 : ¬ ((6 : Int32) < 0 ∨ cl27.slots.size ≤ ((6 : Int32)).toNatClampNeg) := inb_of Sz27 ⟨by decide, by decide⟩
  obtain ⟨T29, h29, X29, e29, W29, st29⟩ := stR X26 hx hZ e26 Ar27 (j := (6 : Int32)) hin28 rfl (Sto.ofV Ar27 q27 Ov1 (Ins.self (E_MALFORMED_REQUEST.ext O25.2))) (g := (mkF m 47 #[.val (.int p0), .val (.int p1), .unset, .unset, .unset] [(.ref a_MALFORMED_REQUEST), (.int (6 : Int32)), (.ref b1), (.ref b1)])) rfl rfl (hb hby at_47)
  have V29 : Arv Z h29 b1 c1 (.object "com/example/kwota/kwota/server/ErrorReason") (8 : Int32) [(.ref a_PATH_NOT_FOUND), (.ref a_METHOD_NOT_ALLOWED), (.ref a_UNSUPPORTED_MEDIA_TYPE), (.ref a_EXPECTATION_FAILED), (.ref a_NOT_IMPLEMENTED), (.ref a_HTTP_VERSION_NOT_SUPPORTED), (.ref a_MALFORMED_REQUEST), .null] .null := Arv.set Ar27 q27 Sz27 Nn27 Hs27 Gf27 rfl W29 6 rfl (Nat.le_of_ble_eq_true rfl)
  have N29 := Fr.snoc X29 N25 g_b1
  have O29 := O25.wr W29 g_b1
  have K29 := K25.wr W29 (Or.inr s_b1)
  obtain ⟨T30, X30, e30, st30⟩ := getS2 X29 hx hZ hown (host := "") (Or.inl (own_w hw 18 rfl)) Via.refl e29 (S_INTERNAL_ERROR.ext O29.2) (g := (mkF m 51 #[.val (.int p0), .val (.int p1), .unset, .unset, .unset] [(.int (7 : Int32)), (.ref b1), (.ref b1)])) rfl (hb hby at_51)
  obtain ⟨cl31, Ar31, q31, Sz31, Nn31, Hs31, Gf31⟩ := id V29
  have hin32 : ¬ ((7 : Int32) < 0 ∨ cl31.slots.size ≤ ((7 : Int32)).toNatClampNeg) := inb_of Sz31 ⟨by decide, by decide⟩
  obtain ⟨T33, h33, X33, e33, W33, st33⟩ := stR X30 hx hZ e30 Ar31 (j := (7 : Int32)) hin32 rfl (Sto.ofV Ar31 q31 Ov1 (Ins.self (E_INTERNAL_ERROR.ext O29.2))) (g := (mkF m 54 #[.val (.int p0), .val (.int p1), .unset, .unset, .unset] [(.ref a_INTERNAL_ERROR), (.int (7 : Int32)), (.ref b1), (.ref b1)])) rfl rfl (hb hby at_54)
  have V33 : Arv Z h33 b1 c1 (.object "com/example/kwota/kwota/server/ErrorReason") (8 : Int32) [(.ref a_PATH_NOT_FOUND), (.ref a_METHOD_NOT_ALLOWED), (.ref a_UNSUPPORTED_MEDIA_TYPE), (.ref a_EXPECTATION_FAILED), (.ref a_NOT_IMPLEMENTED), (.ref a_HTTP_VERSION_NOT_SUPPORTED), (.ref a_MALFORMED_REQUEST), (.ref a_INTERNAL_ERROR)] .null := Arv.set Ar31 q31 Sz31 Nn31 Hs31 Gf31 rfl W33 7 rfl (Nat.le_of_ble_eq_true rfl)
  have N33 := Fr.snoc X33 N29 g_b1
  have O33 := O29.wr W33 g_b1
  have K33 := K29.wr W33 (Or.inr s_b1)
  have k34 : ∀ t, own_At p e below m T33 61 #[.val (.int p0), .val (.int p1), .val (.ref b1), .unset, .unset] [(.int (p1 &&& (7 : Int32))), (.ref b1)] t → own_En p e below m s₁ #[(.int p0), (.int p1)] maxLocals t := by
    intro t k
    refine k0 t ?_
    refine XS.bipush X0.here hx rfl (hb hby at_0) ?_
    show own_At p e below m s₁ 2 #[.val (.int p0), .val (.int p1), .unset, .unset, .unset] [(.int (8 : Int32))] t
    refine st1 _ ?_
    show own_At p e below m T1 5 #[.val (.int p0), .val (.int p1), .unset, .unset, .unset] [(.ref b1)] t
    refine XS.dup X1.here hx rfl (hb hby at_5) rfl rfl ?_
    show own_At p e below m T1 6 #[.val (.int p0), .val (.int p1), .unset, .unset, .unset] [(.ref b1), (.ref b1)] t
    refine XS.iconst X1.here hx rfl (hb hby at_6) ?_
    show own_At p e below m T1 7 #[.val (.int p0), .val (.int p1), .unset, .unset, .unset] [(.int (0 : Int32)), (.ref b1), (.ref b1)] t
    refine st2 _ ?_
    show own_At p e below m T2 10 #[.val (.int p0), .val (.int p1), .unset, .unset, .unset] [(.ref a_PATH_NOT_FOUND), (.int (0 : Int32)), (.ref b1), (.ref b1)] t
    refine st5 _ ?_
    show own_At p e below m T5 11 #[.val (.int p0), .val (.int p1), .unset, .unset, .unset] [(.ref b1)] t
    refine XS.dup X5.here hx rfl (hb hby at_11) rfl rfl ?_
    show own_At p e below m T5 12 #[.val (.int p0), .val (.int p1), .unset, .unset, .unset] [(.ref b1), (.ref b1)] t
    refine XS.iconst X5.here hx rfl (hb hby at_12) ?_
    show own_At p e below m T5 13 #[.val (.int p0), .val (.int p1), .unset, .unset, .unset] [(.int (1 : Int32)), (.ref b1), (.ref b1)] t
    refine st6 _ ?_
    show own_At p e below m T6 16 #[.val (.int p0), .val (.int p1), .unset, .unset, .unset] [(.ref a_METHOD_NOT_ALLOWED), (.int (1 : Int32)), (.ref b1), (.ref b1)] t
    refine st9 _ ?_
    show own_At p e below m T9 17 #[.val (.int p0), .val (.int p1), .unset, .unset, .unset] [(.ref b1)] t
    refine XS.dup X9.here hx rfl (hb hby at_17) rfl rfl ?_
    show own_At p e below m T9 18 #[.val (.int p0), .val (.int p1), .unset, .unset, .unset] [(.ref b1), (.ref b1)] t
    refine XS.iconst X9.here hx rfl (hb hby at_18) ?_
    show own_At p e below m T9 19 #[.val (.int p0), .val (.int p1), .unset, .unset, .unset] [(.int (2 : Int32)), (.ref b1), (.ref b1)] t
    refine st10 _ ?_
    show own_At p e below m T10 22 #[.val (.int p0), .val (.int p1), .unset, .unset, .unset] [(.ref a_UNSUPPORTED_MEDIA_TYPE), (.int (2 : Int32)), (.ref b1), (.ref b1)] t
    refine st13 _ ?_
    show own_At p e below m T13 23 #[.val (.int p0), .val (.int p1), .unset, .unset, .unset] [(.ref b1)] t
    refine XS.dup X13.here hx rfl (hb hby at_23) rfl rfl ?_
    show own_At p e below m T13 24 #[.val (.int p0), .val (.int p1), .unset, .unset, .unset] [(.ref b1), (.ref b1)] t
    refine XS.iconst X13.here hx rfl (hb hby at_24) ?_
    show own_At p e below m T13 25 #[.val (.int p0), .val (.int p1), .unset, .unset, .unset] [(.int (3 : Int32)), (.ref b1), (.ref b1)] t
    refine st14 _ ?_
    show own_At p e below m T14 28 #[.val (.int p0), .val (.int p1), .unset, .unset, .unset] [(.ref a_EXPECTATION_FAILED), (.int (3 : Int32)), (.ref b1), (.ref b1)] t
    refine st17 _ ?_
    show own_At p e below m T17 29 #[.val (.int p0), .val (.int p1), .unset, .unset, .unset] [(.ref b1)] t
    refine XS.dup X17.here hx rfl (hb hby at_29) rfl rfl ?_
    show own_At p e below m T17 30 #[.val (.int p0), .val (.int p1), .unset, .unset, .unset] [(.ref b1), (.ref b1)] t
    refine XS.iconst X17.here hx rfl (hb hby at_30) ?_
    show own_At p e below m T17 31 #[.val (.int p0), .val (.int p1), .unset, .unset, .unset] [(.int (4 : Int32)), (.ref b1), (.ref b1)] t
    refine st18 _ ?_
    show own_At p e below m T18 34 #[.val (.int p0), .val (.int p1), .unset, .unset, .unset] [(.ref a_NOT_IMPLEMENTED), (.int (4 : Int32)), (.ref b1), (.ref b1)] t
    refine st21 _ ?_
    show own_At p e below m T21 35 #[.val (.int p0), .val (.int p1), .unset, .unset, .unset] [(.ref b1)] t
    refine XS.dup X21.here hx rfl (hb hby at_35) rfl rfl ?_
    show own_At p e below m T21 36 #[.val (.int p0), .val (.int p1), .unset, .unset, .unset] [(.ref b1), (.ref b1)] t
    refine XS.iconst X21.here hx rfl (hb hby at_36) ?_
    show own_At p e below m T21 37 #[.val (.int p0), .val (.int p1), .unset, .unset, .unset] [(.int (5 : Int32)), (.ref b1), (.ref b1)] t
    refine st22 _ ?_
    show own_At p e below m T22 40 #[.val (.int p0), .val (.int p1), .unset, .unset, .unset] [(.ref a_HTTP_VERSION_NOT_SUPPORTED), (.int (5 : Int32)), (.ref b1), (.ref b1)] t
    refine st25 _ ?_
    show own_At p e below m T25 41 #[.val (.int p0), .val (.int p1), .unset, .unset, .unset] [(.ref b1)] t
    refine XS.dup X25.here hx rfl (hb hby at_41) rfl rfl ?_
    show own_At p e below m T25 42 #[.val (.int p0), .val (.int p1), .unset, .unset, .unset] [(.ref b1), (.ref b1)] t
    refine XS.bipush X25.here hx rfl (hb hby at_42) ?_
    show own_At p e below m T25 44 #[.val (.int p0), .val (.int p1), .unset, .unset, .unset] [(.int (6 : Int32)), (.ref b1), (.ref b1)] t
    refine st26 _ ?_
    show own_At p e below m T26 47 #[.val (.int p0), .val (.int p1), .unset, .unset, .unset] [(.ref a_MALFORMED_REQUEST), (.int (6 : Int32)), (.ref b1), (.ref b1)] t
    refine st29 _ ?_
    show own_At p e below m T29 48 #[.val (.int p0), .val (.int p1), .unset, .unset, .unset] [(.ref b1)] t
    refine XS.dup X29.here hx rfl (hb hby at_48) rfl rfl ?_
    show own_At p e below m T29 49 #[.val (.int p0), .val (.int p1), .unset, .unset, .unset] [(.ref b1), (.ref b1)] t
    refine XS.bipush X29.here hx rfl (hb hby at_49) ?_
    show own_At p e below m T29 51 #[.val (.int p0), .val (.int p1), .unset, .unset, .unset] [(.int (7 : Int32)), (.ref b1), (.ref b1)] t
    refine st30 _ ?_
    show own_At p e below m T30 54 #[.val (.int p0), .val (.int p1), .unset, .unset, .unset] [(.ref a_INTERNAL_ERROR), (.int (7 : Int32)), (.ref b1), (.ref b1)] t
    refine st33 _ ?_
    show own_At p e below m T33 55 #[.val (.int p0), .val (.int p1), .unset, .unset, .unset] [(.ref b1)] t
    refine XS.astoreN X33.here hx rfl (hb hby at_55) rfl rfl (l' := #[.val (.int p0), .val (.int p1), .val (.ref b1), .unset, .unset]) rfl ?_
    show own_At p e below m T33 56 #[.val (.int p0), .val (.int p1), .val (.ref b1), .unset, .unset] [] t
    refine XS.aloadN X33.here hx rfl (hb hby at_56) rfl rfl ?_
    show own_At p e below m T33 57 #[.val (.int p0), .val (.int p1), .val (.ref b1), .unset, .unset] [(.ref b1)] t
    refine XS.iloadN X33.here hx rfl (hb hby at_57) rfl ?_
    show own_At p e below m T33 58 #[.val (.int p0), .val (.int p1), .val (.ref b1), .unset, .unset] [(.int p1), (.ref b1)] t
    refine XS.bipush X33.here hx rfl (hb hby at_58) ?_
    show own_At p e below m T33 60 #[.val (.int p0), .val (.int p1), .val (.ref b1), .unset, .unset] [(.int (7 : Int32)), (.int p1), (.ref b1)] t
    refine XS.iand X33.here hx rfl (hb hby at_60) rfl ?_
    show own_At p e below m T33 61 #[.val (.int p0), .val (.int p1), .val (.ref b1), .unset, .unset] [(.int (p1 &&& (7 : Int32))), (.ref b1)] t
    exact k
  rcases own_and7 p1 with hs35 | hs35 | hs35 | hs35 | hs35 | hs35 | hs35 | hs35
  · have k36 : ∀ t, own_At p e below m T33 61 #[.val (.int p0), .val (.int p1), .val (.ref b1), .unset, .unset] [(.int (0 : Int32)), (.ref b1)] t → own_En p e below m s₁ #[(.int p0), (.int p1)] maxLocals t := by
      intro t k
      refine k34 t ?_
      rw [hs35]
      exact k
    obtain ⟨cl37, Ar37, q37, Sz37, Nn37, Hs37, Gf37⟩ := id V33
    have hin38 : ¬ ((0 : Int32) < 0 ∨ cl37.slots.size ≤ ((0 : Int32)).toNatClampNeg) := inb_of Sz37 ⟨by decide, by decide⟩
    have hat39 : cl37.slots[((0 : Int32)).toNatClampNeg]? = some (.ref a_PATH_NOT_FOUND) := Hs37.at hin38 rfl
    obtain ⟨_, _, ⟨T40, L40, k40, n40⟩, -, X40, ⟨Lc40, hQ40, l40, y40, z40⟩, st40⟩ := Jvm.LawKit.callS X33 hx (y := own_m1) hown (mvT hZ (own_w hw 20 rfl)) (mvT hZ (own_w hw 21 rfl)) (mvT hZ (own_w hw 22 rfl)) (mvT hZ (own_w hw 23 rfl)) (by decide) (backOf (W := 0) (rm_f5 l Z a0 hw []  _ _ _ _ _ _ _ _ h33 n0 O33 hE) hZ (own_w hw 23 rfl) (own_w hw 22 rfl) (by decide) (by decide)) (g := (mkF m 64 #[.val (.int p0), .val (.int p1), .val (.ref b1), .val (.ref a_PATH_NOT_FOUND), .unset] [(.ref a_PATH_NOT_FOUND)])) rfl (by rw [hml]; rfl) (argsL := [(.ref a_PATH_NOT_FOUND)]) (rest := []) (lenOf pd__Lcom_example_kwota_kwota_server_ErrorReason__I rfl) rfl (by show 2 * 0 + _ ≤ _; exact Nat.le_of_eq rfl) (hb hby at_64) (fun _ _ => ⟨rfl, e33, (by decide : 1 + 0 ≤ _), (by decide : 8 + 0 ≤ _)⟩)
    dsimp only [Pt.U, Pt.locs, Pt.cells, Pt.slots] at X40 l40 y40 z40 st40 hQ40
    subst l40 y40 z40
    obtain ⟨rfl, N40q, hp40⟩ := hQ40
    have N40 := Fr.app N33 N40q
    obtain ⟨_, _, ⟨T41, L41, k41, n41⟩, -, X41, ⟨Lc41, hQ41, l41, y41, z41⟩, st41⟩ := Jvm.LawKit.callS X40 hx (y := own_m2) hown (mvT hZ (own_w hw 24 rfl)) (mvT hZ (own_w hw 25 rfl)) (mvT hZ (own_w hw 22 rfl)) (mvT hZ (own_w hw 26 rfl)) (by decide) (backOf (W := 0) (rm_fits l Z a0 hw [] p0 _ _ _ _ _ _ _ _ h33 n0 O33 hE) hZ (own_w hw 26 rfl) (own_w hw 22 rfl) (by decide) (by decide)) (g := (mkF m 70 #[.val (.int p0), .val (.int p1), .val (.ref b1), .val (.ref a_PATH_NOT_FOUND), .val (.int (404 : Int32))] [(.int p0)])) rfl (by rw [hml]; rfl) (argsL := [(.int p0)]) (rest := []) (lenOf pd__I_Z rfl) rfl (by show 2 * 0 + _ ≤ _; exact Nat.le_of_eq rfl) (hb hby at_70) (fun _ _ => ⟨rfl, hp40, (by decide : 1 + 0 ≤ _), (by decide : 8 + 0 ≤ _)⟩)
    dsimp only [Pt.U, Pt.locs, Pt.cells, Pt.slots] at X41 l41 y41 z41 st41 hQ41
    subst l41 y41 z41
    obtain ⟨rfl, N41q, hp41⟩ := hQ41
    have N41 := Fr.app N40 N41q
    obtain ⟨_, _, ⟨T42, L42, k42, n42⟩, -, X42, ⟨Lc42, hQ42, l42, y42, z42⟩, st42⟩ := Jvm.LawKit.callS X41 hx (y := own_m0) hown (mvT hZ (own_w hw 27 rfl)) (mvT hZ (own_w hw 28 rfl)) (mvT hZ (own_w hw 3 rfl)) (mvT hZ (own_w hw 29 rfl)) (by decide) (backOf (W := 0) (rm_f4 l Z a0 hw []  _ _ _ _ _ _ _ _ h33 n0 O33 hE) hZ (own_w hw 29 rfl) (own_w hw 3 rfl) (by decide) (by decide)) (g := (mkF m 78 #[.val (.int p0), .val (.int p1), .val (.ref b1), .val (.ref a_PATH_NOT_FOUND), .val (.int (404 : Int32))] [(.int (404 : Int32))])) rfl (by rw [hml]; rfl) (argsL := [(.int (404 : Int32))]) (rest := []) (lenOf pd__I_Lcom_example_kwota_kwota_server_ErrorReason_ rfl) rfl (by show 2 * 0 + _ ≤ _; exact Nat.le_of_eq rfl) (hb hby at_78) (fun _ _ => ⟨rfl, hp41, (by decide : 1 + 0 ≤ _), (by decide : 8 + 0 ≤ _)⟩)
    dsimp only [Pt.U, Pt.locs, Pt.cells, Pt.slots] at X42 l42 y42 z42 st42 hQ42
    subst l42 y42 z42
    obtain ⟨rfl, N42q, hp42⟩ := hQ42
    have N42 := Fr.app N41 N42q
    obtain ⟨_, _, ⟨T43, L43, k43, n43⟩, -, X43, ⟨Lc43, hQ43, l43, y43, z43⟩, st43⟩ := Jvm.LawKit.callS X42 hx (y := own_m2) hown (mvT hZ (own_w hw 24 rfl)) (mvT hZ (own_w hw 25 rfl)) (mvT hZ (own_w hw 22 rfl)) (mvT hZ (own_w hw 26 rfl)) (by decide) (backOf (W := 0) (rm_f3 l Z a0 hw []  _ _ _ _ _ _ _ _ h33 n0 O33 hE) hZ (own_w hw 26 rfl) (own_w hw 22 rfl) (by decide) (by decide)) (g := (mkF m 87 #[.val (.int p0), .val (.int p1), .val (.ref b1), .val (.ref a_PATH_NOT_FOUND), .val (.int (404 : Int32))] [(.int (404 : Int32))])) rfl (by rw [hml]; rfl) (argsL := [(.int (404 : Int32))]) (rest := []) (lenOf pd__I_Z rfl) rfl (by show 2 * 0 + _ ≤ _; exact Nat.le_of_eq rfl) (hb hby at_87) (fun _ _ => ⟨rfl, hp42, (by decide : 1 + 0 ≤ _), (by decide : 8 + 0 ≤ _)⟩)
    dsimp only [Pt.U, Pt.locs, Pt.cells, Pt.slots] at X43 l43 y43 z43 st43 hQ43
    subst l43 y43 z43
    obtain ⟨rfl, N43q, hp43⟩ := hQ43
    have N43 := Fr.app N42 N43q
    have k44 : ∀ t, own_At p e below m T43 98 #[.val (.int p0), .val (.int p1), .val (.ref b1), .val (.ref a_PATH_NOT_FOUND), .val (.int (404 : Int32))] [(.int (1 : Int32))] t → own_En p e below m s₁ #[(.int p0), (.int p1)] maxLocals t := by
      intro t k
      refine k36 t ?_
      refine X33.aaload hx (j := (0 : Int32)) (v := (.ref a_PATH_NOT_FOUND)) (by rw [e33]; exact Ar37.1) (State.isArrayOf_alike hZ.alike Ar37.2.1) rfl Ar37.2.2 hin38 hat39 (g := (mkF m 61 #[.val (.int p0), .val (.int p1), .val (.ref b1), .unset, .unset] [(.int (0 : Int32)), (.ref b1)])) rfl rfl (hb hby at_61) _ ?_
      show own_At p e below m T33 62 #[.val (.int p0), .val (.int p1), .val (.ref b1), .unset, .unset] [(.ref a_PATH_NOT_FOUND)] t
      refine XS.astoreN X33.here hx rfl (hb hby at_62) rfl rfl (l' := #[.val (.int p0), .val (.int p1), .val (.ref b1), .val (.ref a_PATH_NOT_FOUND), .unset]) rfl ?_
      show own_At p e below m T33 63 #[.val (.int p0), .val (.int p1), .val (.ref b1), .val (.ref a_PATH_NOT_FOUND), .unset] [] t
      refine XS.aloadN X33.here hx rfl (hb hby at_63) rfl rfl ?_
      show own_At p e below m T33 64 #[.val (.int p0), .val (.int p1), .val (.ref b1), .val (.ref a_PATH_NOT_FOUND), .unset] [(.ref a_PATH_NOT_FOUND)] t
      refine st40 _ ?_
      show own_At p e below m T40 67 #[.val (.int p0), .val (.int p1), .val (.ref b1), .val (.ref a_PATH_NOT_FOUND), .unset] [(.int (404 : Int32))] t
      refine XS.istore X40.here hx rfl (hb hby at_67) rfl (l' := #[.val (.int p0), .val (.int p1), .val (.ref b1), .val (.ref a_PATH_NOT_FOUND), .val (.int (404 : Int32))]) rfl ?_
      show own_At p e below m T40 69 #[.val (.int p0), .val (.int p1), .val (.ref b1), .val (.ref a_PATH_NOT_FOUND), .val (.int (404 : Int32))] [] t
      refine XS.iloadN X40.here hx rfl (hb hby at_69) rfl ?_
      show own_At p e below m T40 70 #[.val (.int p0), .val (.int p1), .val (.ref b1), .val (.ref a_PATH_NOT_FOUND), .val (.int (404 : Int32))] [(.int p0)] t
      refine st41 _ ?_
      show own_At p e below m T41 73 #[.val (.int p0), .val (.int p1), .val (.ref b1), .val (.ref a_PATH_NOT_FOUND), .val (.int (404 : Int32))] [(.int (1 : Int32))] t
      refine XS.ifNo X41.here hx rfl (hb hby at_73) rfl ((if0 _ _).trans (feq (by decide : ¬ ((1 : Int32) = (0 : Int32)))).1) ?_
      show own_At p e below m T41 76 #[.val (.int p0), .val (.int p1), .val (.ref b1), .val (.ref a_PATH_NOT_FOUND), .val (.int (404 : Int32))] [] t
      refine XS.iload X41.here hx rfl (hb hby at_76) rfl ?_
      show own_At p e below m T41 78 #[.val (.int p0), .val (.int p1), .val (.ref b1), .val (.ref a_PATH_NOT_FOUND), .val (.int (404 : Int32))] [(.int (404 : Int32))] t
      refine st42 _ ?_
      show own_At p e below m T42 81 #[.val (.int p0), .val (.int p1), .val (.ref b1), .val (.ref a_PATH_NOT_FOUND), .val (.int (404 : Int32))] [(.ref a_PATH_NOT_FOUND)] t
      refine XS.aloadN X42.here hx rfl (hb hby at_81) rfl rfl ?_
      show own_At p e below m T42 82 #[.val (.int p0), .val (.int p1), .val (.ref b1), .val (.ref a_PATH_NOT_FOUND), .val (.int (404 : Int32))] [(.ref a_PATH_NOT_FOUND), (.ref a_PATH_NOT_FOUND)] t
      refine Jvm.RoadKit.acmp (g := (mkF m 82 #[.val (.int p0), .val (.int p1), .val (.ref b1), .val (.ref a_PATH_NOT_FOUND), .val (.int (404 : Int32))] [(.ref a_PATH_NOT_FOUND), (.ref a_PATH_NOT_FOUND)])) X42 hx rfl rfl rfl (pc0 := 82) (pc' := 85) (same := true) rfl (hb hby at_82) rfl (decide_eq_true rfl) (by decide) (by decide) ?_
      show own_At p e below m T42 85 #[.val (.int p0), .val (.int p1), .val (.ref b1), .val (.ref a_PATH_NOT_FOUND), .val (.int (404 : Int32))] [] t
      refine XS.iload X42.here hx rfl (hb hby at_85) rfl ?_
      show own_At p e below m T42 87 #[.val (.int p0), .val (.int p1), .val (.ref b1), .val (.ref a_PATH_NOT_FOUND), .val (.int (404 : Int32))] [(.int (404 : Int32))] t
      refine st43 _ ?_
      show own_At p e below m T43 90 #[.val (.int p0), .val (.int p1), .val (.ref b1), .val (.ref a_PATH_NOT_FOUND), .val (.int (404 : Int32))] [(.int (1 : Int32))] t
      refine XS.ifNo X43.here hx rfl (hb hby at_90) rfl ((if0 _ _).trans (feq (by decide : ¬ ((1 : Int32) = (0 : Int32)))).1) ?_
      show own_At p e below m T43 93 #[.val (.int p0), .val (.int p1), .val (.ref b1), .val (.ref a_PATH_NOT_FOUND), .val (.int (404 : Int32))] [] t
      refine XS.iconst X43.here hx rfl (hb hby at_93) ?_
      show own_At p e below m T43 94 #[.val (.int p0), .val (.int p1), .val (.ref b1), .val (.ref a_PATH_NOT_FOUND), .val (.int (404 : Int32))] [(.int (1 : Int32))] t
      refine XS.goto X43.here hx rfl (pc0 := 94) (pc' := 98) rfl (hb hby at_94) (by decide) (by decide) ?_
      show own_At p e below m T43 98 #[.val (.int p0), .val (.int p1), .val (.ref b1), .val (.ref a_PATH_NOT_FOUND), .val (.int (404 : Int32))] [(.int (1 : Int32))] t
      exact k
    obtain ⟨fs, hr, hrun, hended, hW, hsame⟩ := X43.leave (v := some (.int (1 : Int32))) (fun h => by rw [Bd.returns] at h; cases h)
    refine hNG ⟨_, _, k44 _ ?_, hrun, hended, _, _, rfl, ?_, ⟨_, rfl⟩, hW, hsame.mono (by decide) (by decide)⟩
    · exact retN X43 hx (t := .boolean) Bd.returns (by simp) (hb hby at_98) hr
    · show Q_law Z p0 p1 a_PATH_NOT_FOUND a_METHOD_NOT_ALLOWED a_UNSUPPORTED_MEDIA_TYPE a_EXPECTATION_FAILED a_NOT_IMPLEMENTED a_HTTP_VERSION_NOT_SUPPORTED a_MALFORMED_REQUEST a_INTERNAL_ERROR h0 n0 _ T43.heap _
      rw [hp43]
      exact ⟨rfl, N43⟩
  · have k45 : ∀ t, own_At p e below m T33 61 #[.val (.int p0), .val (.int p1), .val (.ref b1), .unset, .unset] [(.int (1 : Int32)), (.ref b1)] t → own_En p e below m s₁ #[(.int p0), (.int p1)] maxLocals t := by
      intro t k
      refine k34 t ?_
      rw [hs35]
      exact k
    obtain ⟨cl46, Ar46, q46, Sz46, Nn46, Hs46, Gf46⟩ := id V33
    have hin47 : ¬ ((1 : Int32) < 0 ∨ cl46.slots.size ≤ ((1 : Int32)).toNatClampNeg) := inb_of Sz46 ⟨by decide, by decide⟩
    have hat48 : cl46.slots[((1 : Int32)).toNatClampNeg]? = some (.ref a_METHOD_NOT_ALLOWED) := Hs46.at hin47 rfl
    obtain ⟨_, _, ⟨T49, L49, k49, n49⟩, -, X49, ⟨Lc49, hQ49, l49, y49, z49⟩, st49⟩ := Jvm.LawKit.callS X33 hx (y := own_m1) hown (mvT hZ (own_w hw 20 rfl)) (mvT hZ (own_w hw 21 rfl)) (mvT hZ (own_w hw 22 rfl)) (mvT hZ (own_w hw 23 rfl)) (by decide) (backOf (W := 0) (rm_f8 l Z a0 hw []  _ _ _ _ _ _ _ _ h33 n0 O33 hE) hZ (own_w hw 23 rfl) (own_w hw 22 rfl) (by decide) (by decide)) (g := (mkF m 64 #[.val (.int p0), .val (.int p1), .val (.ref b1), .val (.ref a_METHOD_NOT_ALLOWED), .unset] [(.ref a_METHOD_NOT_ALLOWED)])) rfl (by rw [hml]; rfl) (argsL := [(.ref a_METHOD_NOT_ALLOWED)]) (rest := []) (lenOf pd__Lcom_example_kwota_kwota_server_ErrorReason__I rfl) rfl (by show 2 * 0 + _ ≤ _; exact Nat.le_of_eq rfl) (hb hby at_64) (fun _ _ => ⟨rfl, e33, (by decide : 1 + 0 ≤ _), (by decide : 8 + 0 ≤ _)⟩)
    dsimp only [Pt.U, Pt.locs, Pt.cells, Pt.slots] at X49 l49 y49 z49 st49 hQ49
    subst l49 y49 z49
    obtain ⟨rfl, N49q, hp49⟩ := hQ49
    have N49 := Fr.app N33 N49q
    obtain ⟨_, _, ⟨T50, L50, k50, n50⟩, -, X50, ⟨Lc50, hQ50, l50, y50, z50⟩, st50⟩ := Jvm.LawKit.callS X49 hx (y := own_m2) hown (mvT hZ (own_w hw 24 rfl)) (mvT hZ (own_w hw 25 rfl)) (mvT hZ (own_w hw 22 rfl)) (mvT hZ (own_w hw 26 rfl)) (by decide) (backOf (W := 0) (rm_fits l Z a0 hw [] p0 _ _ _ _ _ _ _ _ h33 n0 O33 hE) hZ (own_w hw 26 rfl) (own_w hw 22 rfl) (by decide) (by decide)) (g := (mkF m 70 #[.val (.int p0), .val (.int p1), .val (.ref b1), .val (.ref a_METHOD_NOT_ALLOWED), .val (.int (405 : Int32))] [(.int p0)])) rfl (by rw [hml]; rfl) (argsL := [(.int p0)]) (rest := []) (lenOf pd__I_Z rfl) rfl (by show 2 * 0 + _ ≤ _; exact Nat.le_of_eq rfl) (hb hby at_70) (fun _ _ => ⟨rfl, hp49, (by decide : 1 + 0 ≤ _), (by decide : 8 + 0 ≤ _)⟩)
    dsimp only [Pt.U, Pt.locs, Pt.cells, Pt.slots] at X50 l50 y50 z50 st50 hQ50
    subst l50 y50 z50
    obtain ⟨rfl, N50q, hp50⟩ := hQ50
    have N50 := Fr.app N49 N50q
    obtain ⟨_, _, ⟨T51, L51, k51, n51⟩, -, X51, ⟨Lc51, hQ51, l51, y51, z51⟩, st51⟩ := Jvm.LawKit.callS X50 hx (y := own_m0) hown (mvT hZ (own_w hw 27 rfl)) (mvT hZ (own_w hw 28 rfl)) (mvT hZ (own_w hw 3 rfl)) (mvT hZ (own_w hw 29 rfl)) (by decide) (backOf (W := 0) (rm_f7 l Z a0 hw []  _ _ _ _ _ _ _ _ h33 n0 O33 hE) hZ (own_w hw 29 rfl) (own_w hw 3 rfl) (by decide) (by decide)) (g := (mkF m 78 #[.val (.int p0), .val (.int p1), .val (.ref b1), .val (.ref a_METHOD_NOT_ALLOWED), .val (.int (405 : Int32))] [(.int (405 : Int32))])) rfl (by rw [hml]; rfl) (argsL := [(.int (405 : Int32))]) (rest := []) (lenOf pd__I_Lcom_example_kwota_kwota_server_ErrorReason_ rfl) rfl (by show 2 * 0 + _ ≤ _; exact Nat.le_of_eq rfl) (hb hby at_78) (fun _ _ => ⟨rfl, hp50, (by decide : 1 + 0 ≤ _), (by decide : 8 + 0 ≤ _)⟩)
    dsimp only [Pt.U, Pt.locs, Pt.cells, Pt.slots] at X51 l51 y51 z51 st51 hQ51
    subst l51 y51 z51
    obtain ⟨rfl, N51q, hp51⟩ := hQ51
    have N51 := Fr.app N50 N51q
    obtain ⟨_, _, ⟨T52, L52, k52, n52⟩, -, X52, ⟨Lc52, hQ52, l52, y52, z52⟩, st52⟩ := Jvm.LawKit.callS X51 hx (y := own_m2) hown (mvT hZ (own_w hw 24 rfl)) (mvT hZ (own_w hw 25 rfl)) (mvT hZ (own_w hw 22 rfl)) (mvT hZ (own_w hw 26 rfl)) (by decide) (backOf (W := 0) (rm_f6 l Z a0 hw []  _ _ _ _ _ _ _ _ h33 n0 O33 hE) hZ (own_w hw 26 rfl) (own_w hw 22 rfl) (by decide) (by decide)) (g := (mkF m 87 #[.val (.int p0), .val (.int p1), .val (.ref b1), .val (.ref a_METHOD_NOT_ALLOWED), .val (.int (405 : Int32))] [(.int (405 : Int32))])) rfl (by rw [hml]; rfl) (argsL := [(.int (405 : Int32))]) (rest := []) (lenOf pd__I_Z rfl) rfl (by show 2 * 0 + _ ≤ _; exact Nat.le_of_eq rfl) (hb hby at_87) (fun _ _ => ⟨rfl, hp51, (by decide : 1 + 0 ≤ _), (by decide : 8 + 0 ≤ _)⟩)
    dsimp only [Pt.U, Pt.locs, Pt.cells, Pt.slots] at X52 l52 y52 z52 st52 hQ52
    subst l52 y52 z52
    obtain ⟨rfl, N52q, hp52⟩ := hQ52
    have N52 := Fr.app N51 N52q
    have k53 : ∀ t, own_At p e below m T52 98 #[.val (.int p0), .val (.int p1), .val (.ref b1), .val (.ref a_METHOD_NOT_ALLOWED), .val (.int (405 : Int32))] [(.int (1 : Int32))] t → own_En p e below m s₁ #[(.int p0), (.int p1)] maxLocals t := by
      intro t k
      refine k45 t ?_
      refine X33.aaload hx (j := (1 : Int32)) (v := (.ref a_METHOD_NOT_ALLOWED)) (by rw [e33]; exact Ar46.1) (State.isArrayOf_alike hZ.alike Ar46.2.1) rfl Ar46.2.2 hin47 hat48 (g := (mkF m 61 #[.val (.int p0), .val (.int p1), .val (.ref b1), .unset, .unset] [(.int (1 : Int32)), (.ref b1)])) rfl rfl (hb hby at_61) _ ?_
      show own_At p e below m T33 62 #[.val (.int p0), .val (.int p1), .val (.ref b1), .unset, .unset] [(.ref a_METHOD_NOT_ALLOWED)] t
      refine XS.astoreN X33.here hx rfl (hb hby at_62) rfl rfl (l' := #[.val (.int p0), .val (.int p1), .val (.ref b1), .val (.ref a_METHOD_NOT_ALLOWED), .unset]) rfl ?_
      show own_At p e below m T33 63 #[.val (.int p0), .val (.int p1), .val (.ref b1), .val (.ref a_METHOD_NOT_ALLOWED), .unset] [] t
      refine XS.aloadN X33.here hx rfl (hb hby at_63) rfl rfl ?_
      show own_At p e below m T33 64 #[.val (.int p0), .val (.int p1), .val (.ref b1), .val (.ref a_METHOD_NOT_ALLOWED), .unset] [(.ref a_METHOD_NOT_ALLOWED)] t
      refine st49 _ ?_
      show own_At p e below m T49 67 #[.val (.int p0), .val (.int p1), .val (.ref b1), .val (.ref a_METHOD_NOT_ALLOWED), .unset] [(.int (405 : Int32))] t
      refine XS.istore X49.here hx rfl (hb hby at_67) rfl (l' := #[.val (.int p0), .val (.int p1), .val (.ref b1), .val (.ref a_METHOD_NOT_ALLOWED), .val (.int (405 : Int32))]) rfl ?_
      show own_At p e below m T49 69 #[.val (.int p0), .val (.int p1), .val (.ref b1), .val (.ref a_METHOD_NOT_ALLOWED), .val (.int (405 : Int32))] [] t
      refine XS.iloadN X49.here hx rfl (hb hby at_69) rfl ?_
      show own_At p e below m T49 70 #[.val (.int p0), .val (.int p1), .val (.ref b1), .val (.ref a_METHOD_NOT_ALLOWED), .val (.int (405 : Int32))] [(.int p0)] t
      refine st50 _ ?_
      show own_At p e below m T50 73 #[.val (.int p0), .val (.int p1), .val (.ref b1), .val (.ref a_METHOD_NOT_ALLOWED), .val (.int (405 : Int32))] [(.int (1 : Int32))] t
      refine XS.ifNo X50.here hx rfl (hb hby at_73) rfl ((if0 _ _).trans (feq (by decide : ¬ ((1 : Int32) = (0 : Int32)))).1) ?_
      show own_At p e below m T50 76 #[.val (.int p0), .val (.int p1), .val (.ref b1), .val (.ref a_METHOD_NOT_ALLOWED), .val (.int (405 : Int32))] [] t
      refine XS.iload X50.here hx rfl (hb hby at_76) rfl ?_
      show own_At p e below m T50 78 #[.val (.int p0), .val (.int p1), .val (.ref b1), .val (.ref a_METHOD_NOT_ALLOWED), .val (.int (405 : Int32))] [(.int (405 : Int32))] t
      refine st51 _ ?_
      show own_At p e below m T51 81 #[.val (.int p0), .val (.int p1), .val (.ref b1), .val (.ref a_METHOD_NOT_ALLOWED), .val (.int (405 : Int32))] [(.ref a_METHOD_NOT_ALLOWED)] t
      refine XS.aloadN X51.here hx rfl (hb hby at_81) rfl rfl ?_
      show own_At p e below m T51 82 #[.val (.int p0), .val (.int p1), .val (.ref b1), .val (.ref a_METHOD_NOT_ALLOWED), .val (.int (405 : Int32))] [(.ref a_METHOD_NOT_ALLOWED), (.ref a_METHOD_NOT_ALLOWED)] t
      refine Jvm.RoadKit.acmp (g := (mkF m 82 #[.val (.int p0), .val (.int p1), .val (.ref b1), .val (.ref a_METHOD_NOT_ALLOWED), .val (.int (405 : Int32))] [(.ref a_METHOD_NOT_ALLOWED), (.ref a_METHOD_NOT_ALLOWED)])) X51 hx rfl rfl rfl (pc0 := 82) (pc' := 85) (same := true) rfl (hb hby at_82) rfl (decide_eq_true rfl) (by decide) (by decide) ?_
      show own_At p e below m T51 85 #[.val (.int p0), .val (.int p1), .val (.ref b1), .val (.ref a_METHOD_NOT_ALLOWED), .val (.int (405 : Int32))] [] t
      refine XS.iload X51.here hx rfl (hb hby at_85) rfl ?_
      show own_At p e below m T51 87 #[.val (.int p0), .val (.int p1), .val (.ref b1), .val (.ref a_METHOD_NOT_ALLOWED), .val (.int (405 : Int32))] [(.int (405 : Int32))] t
      refine st52 _ ?_
      show own_At p e below m T52 90 #[.val (.int p0), .val (.int p1), .val (.ref b1), .val (.ref a_METHOD_NOT_ALLOWED), .val (.int (405 : Int32))] [(.int (1 : Int32))] t
      refine XS.ifNo X52.here hx rfl (hb hby at_90) rfl ((if0 _ _).trans (feq (by decide : ¬ ((1 : Int32) = (0 : Int32)))).1) ?_
      show own_At p e below m T52 93 #[.val (.int p0), .val (.int p1), .val (.ref b1), .val (.ref a_METHOD_NOT_ALLOWED), .val (.int (405 : Int32))] [] t
      refine XS.iconst X52.here hx rfl (hb hby at_93) ?_
      show own_At p e below m T52 94 #[.val (.int p0), .val (.int p1), .val (.ref b1), .val (.ref a_METHOD_NOT_ALLOWED), .val (.int (405 : Int32))] [(.int (1 : Int32))] t
      refine XS.goto X52.here hx rfl (pc0 := 94) (pc' := 98) rfl (hb hby at_94) (by decide) (by decide) ?_
      show own_At p e below m T52 98 #[.val (.int p0), .val (.int p1), .val (.ref b1), .val (.ref a_METHOD_NOT_ALLOWED), .val (.int (405 : Int32))] [(.int (1 : Int32))] t
      exact k
    obtain ⟨fs, hr, hrun, hended, hW, hsame⟩ := X52.leave (v := some (.int (1 : Int32))) (fun h => by rw [Bd.returns] at h; cases h)
    refine hNG ⟨_, _, k53 _ ?_, hrun, hended, _, _, rfl, ?_, ⟨_, rfl⟩, hW, hsame.mono (by decide) (by decide)⟩
    · exact retN X52 hx (t := .boolean) Bd.returns (by simp) (hb hby at_98) hr
    · show Q_law Z p0 p1 a_PATH_NOT_FOUND a_METHOD_NOT_ALLOWED a_UNSUPPORTED_MEDIA_TYPE a_EXPECTATION_FAILED a_NOT_IMPLEMENTED a_HTTP_VERSION_NOT_SUPPORTED a_MALFORMED_REQUEST a_INTERNAL_ERROR h0 n0 _ T52.heap _
      rw [hp52]
      exact ⟨rfl, N52⟩
  · have k54 : ∀ t, own_At p e below m T33 61 #[.val (.int p0), .val (.int p1), .val (.ref b1), .unset, .unset] [(.int (2 : Int32)), (.ref b1)] t → own_En p e below m s₁ #[(.int p0), (.int p1)] maxLocals t := by
      intro t k
      refine k34 t ?_
      rw [hs35]
      exact k
    obtain ⟨cl55, Ar55, q55, Sz55, Nn55, Hs55, Gf55⟩ := id V33
    have hin56 : ¬ ((2 : Int32) < 0 ∨ cl55.slots.size ≤ ((2 : Int32)).toNatClampNeg) := inb_of Sz55 ⟨by decide, by decide⟩
    have hat57 : cl55.slots[((2 : Int32)).toNatClampNeg]? = some (.ref a_UNSUPPORTED_MEDIA_TYPE) := Hs55.at hin56 rfl
    obtain ⟨_, _, ⟨T58, L58, k58, n58⟩, -, X58, ⟨Lc58, hQ58, l58, y58, z58⟩, st58⟩ := Jvm.LawKit.callS X33 hx (y := own_m1) hown (mvT hZ (own_w hw 20 rfl)) (mvT hZ (own_w hw 21 rfl)) (mvT hZ (own_w hw 22 rfl)) (mvT hZ (own_w hw 23 rfl)) (by decide) (backOf (W := 0) (rm_f11 l Z a0 hw []  _ _ _ _ _ _ _ _ h33 n0 O33 hE) hZ (own_w hw 23 rfl) (own_w hw 22 rfl) (by decide) (by decide)) (g := (mkF m 64 #[.val (.int p0), .val (.int p1), .val (.ref b1), .val (.ref a_UNSUPPORTED_MEDIA_TYPE), .unset] [(.ref a_UNSUPPORTED_MEDIA_TYPE)])) rfl (by rw [hml]; rfl) (argsL := [(.ref a_UNSUPPORTED_MEDIA_TYPE)]) (rest := []) (lenOf pd__Lcom_example_kwota_kwota_server_ErrorReason__I rfl) rfl (by show 2 * 0 + _ ≤ _; exact Nat.le_of_eq rfl) (hb hby at_64) (fun _ _ => ⟨rfl, e33, (by decide : 1 + 0 ≤ _), (by decide : 8 + 0 ≤ _)⟩)
    dsimp only [Pt.U, Pt.locs, Pt.cells, Pt.slots] at X58 l58 y58 z58 st58 hQ58
    subst l58 y58 z58
    obtain ⟨rfl, N58q, hp58⟩ := hQ58
    have N58 := Fr.app N33 N58q
    obtain ⟨_, _, ⟨T59, L59, k59, n59⟩, -, X59, ⟨Lc59, hQ59, l59, y59, z59⟩, st59⟩ := Jvm.LawKit.callS X58 hx (y := own_m2) hown (mvT hZ (own_w hw 24 rfl)) (mvT hZ (own_w hw 25 rfl)) (mvT hZ (own_w hw 22 rfl)) (mvT hZ (own_w hw 26 rfl)) (by decide) (backOf (W := 0) (rm_fits l Z a0 hw [] p0 _ _ _ _ _ _ _ _ h33 n0 O33 hE) hZ (own_w hw 26 rfl) (own_w hw 22 rfl) (by decide) (by decide)) (g := (mkF m 70 #[.val (.int p0), .val (.int p1), .val (.ref b1), .val (.ref a_UNSUPPORTED_MEDIA_TYPE), .val (.int (415 : Int32))] [(.int p0)])) rfl (by rw [hml]; rfl) (argsL := [(.int p0)]) (rest := []) (lenOf pd__I_Z rfl) rfl (by show 2 * 0 + _ ≤ _; exact Nat.le_of_eq rfl) (hb hby at_70) (fun _ _ => ⟨rfl, hp58, (by decide : 1 + 0 ≤ _), (by decide : 8 + 0 ≤ _)⟩)
    dsimp only [Pt.U, Pt.locs, Pt.cells, Pt.slots] at X59 l59 y59 z59 st59 hQ59
    subst l59 y59 z59
    obtain ⟨rfl, N59q, hp59⟩ := hQ59
    have N59 := Fr.app N58 N59q
    obtain ⟨_, _, ⟨T60, L60, k60, n60⟩, -, X60, ⟨Lc60, hQ60, l60, y60, z60⟩, st60⟩ := Jvm.LawKit.callS X59 hx (y := own_m0) hown (mvT hZ (own_w hw 27 rfl)) (mvT hZ (own_w hw 28 rfl)) (mvT hZ (own_w hw 3 rfl)) (mvT hZ (own_w hw 29 rfl)) (by decide) (backOf (W := 0) (rm_f10 l Z a0 hw []  _ _ _ _ _ _ _ _ h33 n0 O33 hE) hZ (own_w hw 29 rfl) (own_w hw 3 rfl) (by decide) (by decide)) (g := (mkF m 78 #[.val (.int p0), .val (.int p1), .val (.ref b1), .val (.ref a_UNSUPPORTED_MEDIA_TYPE), .val (.int (415 : Int32))] [(.int (415 : Int32))])) rfl (by rw [hml]; rfl) (argsL := [(.int (415 : Int32))]) (rest := []) (lenOf pd__I_Lcom_example_kwota_kwota_server_ErrorReason_ rfl) rfl (by show 2 * 0 + _ ≤ _; exact Nat.le_of_eq rfl) (hb hby at_78) (fun _ _ => ⟨rfl, hp59, (by decide : 1 + 0 ≤ _), (by decide : 8 + 0 ≤ _)⟩)
    dsimp only [Pt.U, Pt.locs, Pt.cells, Pt.slots] at X60 l60 y60 z60 st60 hQ60
    subst l60 y60 z60
    obtain ⟨rfl, N60q, hp60⟩ := hQ60
    have N60 := Fr.app N59 N60q
    obtain ⟨_, _, ⟨T61, L61, k61, n61⟩, -, X61, ⟨Lc61, hQ61, l61, y61, z61⟩, st61⟩ := Jvm.LawKit.callS X60 hx (y := own_m2) hown (mvT hZ (own_w hw 24 rfl)) (mvT hZ (own_w hw 25 rfl)) (mvT hZ (own_w hw 22 rfl)) (mvT hZ (own_w hw 26 rfl)) (by decide) (backOf (W := 0) (rm_f9 l Z a0 hw []  _ _ _ _ _ _ _ _ h33 n0 O33 hE) hZ (own_w hw 26 rfl) (own_w hw 22 rfl) (by decide) (by decide)) (g := (mkF m 87 #[.val (.int p0), .val (.int p1), .val (.ref b1), .val (.ref a_UNSUPPORTED_MEDIA_TYPE), .val (.int (415 : Int32))] [(.int (415 : Int32))])) rfl (by rw [hml]; rfl) (argsL := [(.int (415 : Int32))]) (rest := []) (lenOf pd__I_Z rfl) rfl (by show 2 * 0 + _ ≤ _; exact Nat.le_of_eq rfl) (hb hby at_87) (fun _ _ => ⟨rfl, hp60, (by decide : 1 + 0 ≤ _), (by decide : 8 + 0 ≤ _)⟩)
    dsimp only [Pt.U, Pt.locs, Pt.cells, Pt.slots] at X61 l61 y61 z61 st61 hQ61
    subst l61 y61 z61
    obtain ⟨rfl, N61q, hp61⟩ := hQ61
    have N61 := Fr.app N60 N61q
    have k62 : ∀ t, own_At p e below m T61 98 #[.val (.int p0), .val (.int p1), .val (.ref b1), .val (.ref a_UNSUPPORTED_MEDIA_TYPE), .val (.int (415 : Int32))] [(.int (1 : Int32))] t → own_En p e below m s₁ #[(.int p0), (.int p1)] maxLocals t := by
      intro t k
      refine k54 t ?_
      refine X33.aaload hx (j := (2 : Int32)) (v := (.ref a_UNSUPPORTED_MEDIA_TYPE)) (by rw [e33]; exact Ar55.1) (State.isArrayOf_alike hZ.alike Ar55.2.1) rfl Ar55.2.2 hin56 hat57 (g := (mkF m 61 #[.val (.int p0), .val (.int p1), .val (.ref b1), .unset, .unset] [(.int (2 : Int32)), (.ref b1)])) rfl rfl (hb hby at_61) _ ?_
      show own_At p e below m T33 62 #[.val (.int p0), .val (.int p1), .val (.ref b1), .unset, .unset] [(.ref a_UNSUPPORTED_MEDIA_TYPE)] t
      refine XS.astoreN X33.here hx rfl (hb hby at_62) rfl rfl (l' := #[.val (.int p0), .val (.int p1), .val (.ref b1), .val (.ref a_UNSUPPORTED_MEDIA_TYPE), .unset]) rfl ?_
      show own_At p e below m T33 63 #[.val (.int p0), .val (.int p1), .val (.ref b1), .val (.ref a_UNSUPPORTED_MEDIA_TYPE), .unset] [] t
      refine XS.aloadN X33.here hx rfl (hb hby at_63) rfl rfl ?_
      show own_At p e below m T33 64 #[.val (.int p0), .val (.int p1), .val (.ref b1), .val (.ref a_UNSUPPORTED_MEDIA_TYPE), .unset] [(.ref a_UNSUPPORTED_MEDIA_TYPE)] t
      refine st58 _ ?_
      show own_At p e below m T58 67 #[.val (.int p0), .val (.int p1), .val (.ref b1), .val (.ref a_UNSUPPORTED_MEDIA_TYPE), .unset] [(.int (415 : Int32))] t
      refine XS.istore X58.here hx rfl (hb hby at_67) rfl (l' := #[.val (.int p0), .val (.int p1), .val (.ref b1), .val (.ref a_UNSUPPORTED_MEDIA_TYPE), .val (.int (415 : Int32))]) rfl ?_
      show own_At p e below m T58 69 #[.val (.int p0), .val (.int p1), .val (.ref b1), .val (.ref a_UNSUPPORTED_MEDIA_TYPE), .val (.int (415 : Int32))] [] t
      refine XS.iloadN X58.here hx rfl (hb hby at_69) rfl ?_
      show own_At p e below m T58 70 #[.val (.int p0), .val (.int p1), .val (.ref b1), .val (.ref a_UNSUPPORTED_MEDIA_TYPE), .val (.int (415 : Int32))] [(.int p0)] t
      refine st59 _ ?_
      show own_At p e below m T59 73 #[.val (.int p0), .val (.int p1), .val (.ref b1), .val (.ref a_UNSUPPORTED_MEDIA_TYPE), .val (.int (415 : Int32))] [(.int (1 : Int32))] t
      refine XS.ifNo X59.here hx rfl (hb hby at_73) rfl ((if0 _ _).trans (feq (by decide : ¬ ((1 : Int32) = (0 : Int32)))).1) ?_
      show own_At p e below m T59 76 #[.val (.int p0), .val (.int p1), .val (.ref b1), .val (.ref a_UNSUPPORTED_MEDIA_TYPE), .val (.int (415 : Int32))] [] t
      refine XS.iload X59.here hx rfl (hb hby at_76) rfl ?_
      show own_At p e below m T59 78 #[.val (.int p0), .val (.int p1), .val (.ref b1), .val (.ref a_UNSUPPORTED_MEDIA_TYPE), .val (.int (415 : Int32))] [(.int (415 : Int32))] t
      refine st60 _ ?_
      show own_At p e below m T60 81 #[.val (.int p0), .val (.int p1), .val (.ref b1), .val (.ref a_UNSUPPORTED_MEDIA_TYPE), .val (.int (415 : Int32))] [(.ref a_UNSUPPORTED_MEDIA_TYPE)] t
      refine XS.aloadN X60.here hx rfl (hb hby at_81) rfl rfl ?_
      show own_At p e below m T60 82 #[.val (.int p0), .val (.int p1), .val (.ref b1), .val (.ref a_UNSUPPORTED_MEDIA_TYPE), .val (.int (415 : Int32))] [(.ref a_UNSUPPORTED_MEDIA_TYPE), (.ref a_UNSUPPORTED_MEDIA_TYPE)] t
      refine Jvm.RoadKit.acmp (g := (mkF m 82 #[.val (.int p0), .val (.int p1), .val (.ref b1), .val (.ref a_UNSUPPORTED_MEDIA_TYPE), .val (.int (415 : Int32))] [(.ref a_UNSUPPORTED_MEDIA_TYPE), (.ref a_UNSUPPORTED_MEDIA_TYPE)])) X60 hx rfl rfl rfl (pc0 := 82) (pc' := 85) (same := true) rfl (hb hby at_82) rfl (decide_eq_true rfl) (by decide) (by decide) ?_
      show own_At p e below m T60 85 #[.val (.int p0), .val (.int p1), .val (.ref b1), .val (.ref a_UNSUPPORTED_MEDIA_TYPE), .val (.int (415 : Int32))] [] t
      refine XS.iload X60.here hx rfl (hb hby at_85) rfl ?_
      show own_At p e below m T60 87 #[.val (.int p0), .val (.int p1), .val (.ref b1), .val (.ref a_UNSUPPORTED_MEDIA_TYPE), .val (.int (415 : Int32))] [(.int (415 : Int32))] t
      refine st61 _ ?_
      show own_At p e below m T61 90 #[.val (.int p0), .val (.int p1), .val (.ref b1), .val (.ref a_UNSUPPORTED_MEDIA_TYPE), .val (.int (415 : Int32))] [(.int (1 : Int32))] t
      refine XS.ifNo X61.here hx rfl (hb hby at_90) rfl ((if0 _ _).trans (feq (by decide : ¬ ((1 : Int32) = (0 : Int32)))).1) ?_
      show own_At p e below m T61 93 #[.val (.int p0), .val (.int p1), .val (.ref b1), .val (.ref a_UNSUPPORTED_MEDIA_TYPE), .val (.int (415 : Int32))] [] t
      refine XS.iconst X61.here hx rfl (hb hby at_93) ?_
      show own_At p e below m T61 94 #[.val (.int p0), .val (.int p1), .val (.ref b1), .val (.ref a_UNSUPPORTED_MEDIA_TYPE), .val (.int (415 : Int32))] [(.int (1 : Int32))] t
      refine XS.goto X61.here hx rfl (pc0 := 94) (pc' := 98) rfl (hb hby at_94) (by decide) (by decide) ?_
      show own_At p e below m T61 98 #[.val (.int p0), .val (.int p1), .val (.ref b1), .val (.ref a_UNSUPPORTED_MEDIA_TYPE), .val (.int (415 : Int32))] [(.int (1 : Int32))] t
      exact k
    obtain ⟨fs, hr, hrun, hended, hW, hsame⟩ := X61.leave (v := some (.int (1 : Int32))) (fun h => by rw [Bd.returns] at h; cases h)
    refine hNG ⟨_, _, k62 _ ?_, hrun, hended, _, _, rfl, ?_, ⟨_, rfl⟩, hW, hsame.mono (by decide) (by decide)⟩
    · exact retN X61 hx (t := .boolean) Bd.returns (by simp) (hb hby at_98) hr
    · show Q_law Z p0 p1 a_PATH_NOT_FOUND a_METHOD_NOT_ALLOWED a_UNSUPPORTED_MEDIA_TYPE a_EXPECTATION_FAILED a_NOT_IMPLEMENTED a_HTTP_VERSION_NOT_SUPPORTED a_MALFORMED_REQUEST a_INTERNAL_ERROR h0 n0 _ T61.heap _
      rw [hp61]
      exact ⟨rfl, N61⟩
  · have k63 : ∀ t, own_At p e below m T33 61 #[.val (.int p0), .val (.int p1), .val (.ref b1), .unset, .unset] [(.int (3 : Int32)), (.ref b1)] t → own_En p e below m s₁ #[(.int p0), (.int p1)] maxLocals t := by
      intro t k
      refine k34 t ?_
      rw [hs35]
      exact k
    obtain ⟨cl64, Ar64, q64, Sz64, Nn64, Hs64, Gf64⟩ := id V33
    have hin65 : ¬ ((3 : Int32) < 0 ∨ cl64.slots.size ≤ ((3 : Int32)).toNatClampNeg) := inb_of Sz64 ⟨by decide, by decide⟩
    have hat66 : cl64.slots[((3 : Int32)).toNatClampNeg]? = some (.ref a_EXPECTATION_FAILED) := Hs64.at hin65 rfl
    obtain ⟨_, _, ⟨T67, L67, k67, n67⟩, -, X67, ⟨Lc67, hQ67, l67, y67, z67⟩, st67⟩ := Jvm.LawKit.callS X33 hx (y := own_m1) hown (mvT hZ (own_w hw 20 rfl)) (mvT hZ (own_w hw 21 rfl)) (mvT hZ (own_w hw 22 rfl)) (mvT hZ (own_w hw 23 rfl)) (by decide) (backOf (W := 0) (rm_f14 l Z a0 hw []  _ _ _ _ _ _ _ _ h33 n0 O33 hE) hZ (own_w hw 23 rfl) (own_w hw 22 rfl) (by decide) (by decide)) (g := (mkF m 64 #[.val (.int p0), .val (.int p1), .val (.ref b1), .val (.ref a_EXPECTATION_FAILED), .unset] [(.ref a_EXPECTATION_FAILED)])) rfl (by rw [hml]; rfl) (argsL := [(.ref a_EXPECTATION_FAILED)]) (rest := []) (lenOf pd__Lcom_example_kwota_kwota_server_ErrorReason__I rfl) rfl (by show 2 * 0 + _ ≤ _; exact Nat.le_of_eq rfl) (hb hby at_64) (fun _ _ => ⟨rfl, e33, (by decide : 1 + 0 ≤ _), (by decide : 8 + 0 ≤ _)⟩)
    dsimp only [Pt.U, Pt.locs, Pt.cells, Pt.slots] at X67 l67 y67 z67 st67 hQ67
    subst l67 y67 z67
    obtain ⟨rfl, N67q, hp67⟩ := hQ67
    have N67 := Fr.app N33 N67q
    obtain ⟨_, _, ⟨T68, L68, k68, n68⟩, -, X68, ⟨Lc68, hQ68, l68, y68, z68⟩, st68⟩ := Jvm.LawKit.callS X67 hx (y := own_m2) hown (mvT hZ (own_w hw 24 rfl)) (mvT hZ (own_w hw 25 rfl)) (mvT hZ (own_w hw 22 rfl)) (mvT hZ (own_w hw 26 rfl)) (by decide) (backOf (W := 0) (rm_fits l Z a0 hw [] p0 _ _ _ _ _ _ _ _ h33 n0 O33 hE) hZ (own_w hw 26 rfl) (own_w hw 22 rfl) (by decide) (by decide)) (g := (mkF m 70 #[.val (.int p0), .val (.int p1), .val (.ref b1), .val (.ref a_EXPECTATION_FAILED), .val (.int (417 : Int32))] [(.int p0)])) rfl (by rw [hml]; rfl) (argsL := [(.int p0)]) (rest := []) (lenOf pd__I_Z rfl) rfl (by show 2 * 0 + _ ≤ _; exact Nat.le_of_eq rfl) (hb hby at_70) (fun _ _ => ⟨rfl, hp67, (by decide : 1 + 0 ≤ _), (by decide : 8 + 0 ≤ _)⟩)
    dsimp only [Pt.U, Pt.locs, Pt.cells, Pt.slots] at X68 l68 y68 z68 st68 hQ68
    subst l68 y68 z68
    obtain ⟨rfl, N68q, hp68⟩ := hQ68
    have N68 := Fr.app N67 N68q
    obtain ⟨_, _, ⟨T69, L69, k69, n69⟩, -, X69, ⟨Lc69, hQ69, l69, y69, z69⟩, st69⟩ := Jvm.LawKit.callS X68 hx (y := own_m0) hown (mvT hZ (own_w hw 27 rfl)) (mvT hZ (own_w hw 28 rfl)) (mvT hZ (own_w hw 3 rfl)) (mvT hZ (own_w hw 29 rfl)) (by decide) (backOf (W := 0) (rm_f13 l Z a0 hw []  _ _ _ _ _ _ _ _ h33 n0 O33 hE) hZ (own_w hw 29 rfl) (own_w hw 3 rfl) (by decide) (by decide)) (g := (mkF m 78 #[.val (.int p0), .val (.int p1), .val (.ref b1), .val (.ref a_EXPECTATION_FAILED), .val (.int (417 : Int32))] [(.int (417 : Int32))])) rfl (by rw [hml]; rfl) (argsL := [(.int (417 : Int32))]) (rest := []) (lenOf pd__I_Lcom_example_kwota_kwota_server_ErrorReason_ rfl) rfl (by show 2 * 0 + _ ≤ _; exact Nat.le_of_eq rfl) (hb hby at_78) (fun _ _ => ⟨rfl, hp68, (by decide : 1 + 0 ≤ _), (by decide : 8 + 0 ≤ _)⟩)
    dsimp only [Pt.U, Pt.locs, Pt.cells, Pt.slots] at X69 l69 y69 z69 st69 hQ69
    subst l69 y69 z69
    obtain ⟨rfl, N69q, hp69⟩ := hQ69
    have N69 := Fr.app N68 N69q
    obtain ⟨_, _, ⟨T70, L70, k70, n70⟩, -, X70, ⟨Lc70, hQ70, l70, y70, z70⟩, st70⟩ := Jvm.LawKit.callS X69 hx (y := own_m2) hown (mvT hZ (own_w hw 24 rfl)) (mvT hZ (own_w hw 25 rfl)) (mvT hZ (own_w hw 22 rfl)) (mvT hZ (own_w hw 26 rfl)) (by decide) (backOf (W := 0) (rm_f12 l Z a0 hw []  _ _ _ _ _ _ _ _ h33 n0 O33 hE) hZ (own_w hw 26 rfl) (own_w hw 22 rfl) (by decide) (by decide)) (g := (mkF m 87 #[.val (.int p0), .val (.int p1), .val (.ref b1), .val (.ref a_EXPECTATION_FAILED), .val (.int (417 : Int32))] [(.int (417 : Int32))])) rfl (by rw [hml]; rfl) (argsL := [(.int (417 : Int32))]) (rest := []) (lenOf pd__I_Z rfl) rfl (by show 2 * 0 + _ ≤ _; exact Nat.le_of_eq rfl) (hb hby at_87) (fun _ _ => ⟨rfl, hp69, (by decide : 1 + 0 ≤ _), (by decide : 8 + 0 ≤ _)⟩)
    dsimp only [Pt.U, Pt.locs, Pt.cells, Pt.slots] at X70 l70 y70 z70 st70 hQ70
    subst l70 y70 z70
    obtain ⟨rfl, N70q, hp70⟩ := hQ70
    have N70 := Fr.app N69 N70q
    have k71 : ∀ t, own_At p e below m T70 98 #[.val (.int p0), .val (.int p1), .val (.ref b1), .val (.ref a_EXPECTATION_FAILED), .val (.int (417 : Int32))] [(.int (1 : Int32))] t → own_En p e below m s₁ #[(.int p0), (.int p1)] maxLocals t := by
      intro t k
      refine k63 t ?_
      refine X33.aaload hx (j := (3 : Int32)) (v := (.ref a_EXPECTATION_FAILED)) (by rw [e33]; exact Ar64.1) (State.isArrayOf_alike hZ.alike Ar64.2.1) rfl Ar64.2.2 hin65 hat66 (g := (mkF m 61 #[.val (.int p0), .val (.int p1), .val (.ref b1), .unset, .unset] [(.int (3 : Int32)), (.ref b1)])) rfl rfl (hb hby at_61) _ ?_
      show own_At p e below m T33 62 #[.val (.int p0), .val (.int p1), .val (.ref b1), .unset, .unset] [(.ref a_EXPECTATION_FAILED)] t
      refine XS.astoreN X33.here hx rfl (hb hby at_62) rfl rfl (l' := #[.val (.int p0), .val (.int p1), .val (.ref b1), .val (.ref a_EXPECTATION_FAILED), .unset]) rfl ?_
      show own_At p e below m T33 63 #[.val (.int p0), .val (.int p1), .val (.ref b1), .val (.ref a_EXPECTATION_FAILED), .unset] [] t
      refine XS.aloadN X33.here hx rfl (hb hby at_63) rfl rfl ?_
      show own_At p e below m T33 64 #[.val (.int p0), .val (.int p1), .val (.ref b1), .val (.ref a_EXPECTATION_FAILED), .unset] [(.ref a_EXPECTATION_FAILED)] t
      refine st67 _ ?_
      show own_At p e below m T67 67 #[.val (.int p0), .val (.int p1), .val (.ref b1), .val (.ref a_EXPECTATION_FAILED), .unset] [(.int (417 : Int32))] t
      refine XS.istore X67.here hx rfl (hb hby at_67) rfl (l' := #[.val (.int p0), .val (.int p1), .val (.ref b1), .val (.ref a_EXPECTATION_FAILED), .val (.int (417 : Int32))]) rfl ?_
      show own_At p e below m T67 69 #[.val (.int p0), .val (.int p1), .val (.ref b1), .val (.ref a_EXPECTATION_FAILED), .val (.int (417 : Int32))] [] t
      refine XS.iloadN X67.here hx rfl (hb hby at_69) rfl ?_
      show own_At p e below m T67 70 #[.val (.int p0), .val (.int p1), .val (.ref b1), .val (.ref a_EXPECTATION_FAILED), .val (.int (417 : Int32))] [(.int p0)] t
      refine st68 _ ?_
      show own_At p e below m T68 73 #[.val (.int p0), .val (.int p1), .val (.ref b1), .val (.ref a_EXPECTATION_FAILED), .val (.int (417 : Int32))] [(.int (1 : Int32))] t
      refine XS.ifNo X68.here hx rfl (hb hby at_73) rfl ((if0 _ _).trans (feq (by decide : ¬ ((1 : Int32) = (0 : Int32)))).1) ?_
      show own_At p e below m T68 76 #[.val (.int p0), .val (.int p1), .val (.ref b1), .val (.ref a_EXPECTATION_FAILED), .val (.int (417 : Int32))] [] t
      refine XS.iload X68.here hx rfl (hb hby at_76) rfl ?_
      show own_At p e below m T68 78 #[.val (.int p0), .val (.int p1), .val (.ref b1), .val (.ref a_EXPECTATION_FAILED), .val (.int (417 : Int32))] [(.int (417 : Int32))] t
      refine st69 _ ?_
      show own_At p e below m T69 81 #[.val (.int p0), .val (.int p1), .val (.ref b1), .val (.ref a_EXPECTATION_FAILED), .val (.int (417 : Int32))] [(.ref a_EXPECTATION_FAILED)] t
      refine XS.aloadN X69.here hx rfl (hb hby at_81) rfl rfl ?_
      show own_At p e below m T69 82 #[.val (.int p0), .val (.int p1), .val (.ref b1), .val (.ref a_EXPECTATION_FAILED), .val (.int (417 : Int32))] [(.ref a_EXPECTATION_FAILED), (.ref a_EXPECTATION_FAILED)] t
      refine Jvm.RoadKit.acmp (g := (mkF m 82 #[.val (.int p0), .val (.int p1), .val (.ref b1), .val (.ref a_EXPECTATION_FAILED), .val (.int (417 : Int32))] [(.ref a_EXPECTATION_FAILED), (.ref a_EXPECTATION_FAILED)])) X69 hx rfl rfl rfl (pc0 := 82) (pc' := 85) (same := true) rfl (hb hby at_82) rfl (decide_eq_true rfl) (by decide) (by decide) ?_
      show own_At p e below m T69 85 #[.val (.int p0), .val (.int p1), .val (.ref b1), .val (.ref a_EXPECTATION_FAILED), .val (.int (417 : Int32))] [] t
      refine XS.iload X69.here hx rfl (hb hby at_85) rfl ?_
      show own_At p e below m T69 87 #[.val (.int p0), .val (.int p1), .val (.ref b1), .val (.ref a_EXPECTATION_FAILED), .val (.int (417 : Int32))] [(.int (417 : Int32))] t
      refine st70 _ ?_
      show own_At p e below m T70 90 #[.val (.int p0), .val (.int p1), .val (.ref b1), .val (.ref a_EXPECTATION_FAILED), .val (.int (417 : Int32))] [(.int (1 : Int32))] t
      refine XS.ifNo X70.here hx rfl (hb hby at_90) rfl ((if0 _ _).trans (feq (by decide : ¬ ((1 : Int32) = (0 : Int32)))).1) ?_
      show own_At p e below m T70 93 #[.val (.int p0), .val (.int p1), .val (.ref b1), .val (.ref a_EXPECTATION_FAILED), .val (.int (417 : Int32))] [] t
      refine XS.iconst X70.here hx rfl (hb hby at_93) ?_
      show own_At p e below m T70 94 #[.val (.int p0), .val (.int p1), .val (.ref b1), .val (.ref a_EXPECTATION_FAILED), .val (.int (417 : Int32))] [(.int (1 : Int32))] t
      refine XS.goto X70.here hx rfl (pc0 := 94) (pc' := 98) rfl (hb hby at_94) (by decide) (by decide) ?_
      show own_At p e below m T70 98 #[.val (.int p0), .val (.int p1), .val (.ref b1), .val (.ref a_EXPECTATION_FAILED), .val (.int (417 : Int32))] [(.int (1 : Int32))] t
      exact k
    obtain ⟨fs, hr, hrun, hended, hW, hsame⟩ := X70.leave (v := some (.int (1 : Int32))) (fun h => by rw [Bd.returns] at h; cases h)
    refine hNG ⟨_, _, k71 _ ?_, hrun, hended, _, _, rfl, ?_, ⟨_, rfl⟩, hW, hsame.mono (by decide) (by decide)⟩
    · exact retN X70 hx (t := .boolean) Bd.returns (by simp) (hb hby at_98) hr
    · show Q_law Z p0 p1 a_PATH_NOT_FOUND a_METHOD_NOT_ALLOWED a_UNSUPPORTED_MEDIA_TYPE a_EXPECTATION_FAILED a_NOT_IMPLEMENTED a_HTTP_VERSION_NOT_SUPPORTED a_MALFORMED_REQUEST a_INTERNAL_ERROR h0 n0 _ T70.heap _
      rw [hp70]
      exact ⟨rfl, N70⟩
  · have k72 : ∀ t, own_At p e below m T33 61 #[.val (.int p0), .val (.int p1), .val (.ref b1), .unset, .unset] [(.int (4 : Int32)), (.ref b1)] t → own_En p e below m s₁ #[(.int p0), (.int p1)] maxLocals t := by
      intro t k
      refine k34 t ?_
      rw [hs35]
      exact k
    obtain ⟨cl73, Ar73, q73, Sz73, Nn73, Hs73, Gf73⟩ := id V33
    have hin74 : ¬ ((4 : Int32) < 0 ∨ cl73.slots.size ≤ ((4 : Int32)).toNatClampNeg) := inb_of Sz73 ⟨by decide, by decide⟩
    have hat75 : cl73.slots[((4 : Int32)).toNatClampNeg]? = some (.ref a_NOT_IMPLEMENTED) := Hs73.at hin74 rfl
    obtain ⟨_, _, ⟨T76, L76, k76, n76⟩, -, X76, ⟨Lc76, hQ76, l76, y76, z76⟩, st76⟩ := Jvm.LawKit.callS X33 hx (y := own_m1) hown (mvT hZ (own_w hw 20 rfl)) (mvT hZ (own_w hw 21 rfl)) (mvT hZ (own_w hw 22 rfl)) (mvT hZ (own_w hw 23 rfl)) (by decide) (backOf (W := 0) (rm_f17 l Z a0 hw []  _ _ _ _ _ _ _ _ h33 n0 O33 hE) hZ (own_w hw 23 rfl) (own_w hw 22 rfl) (by decide) (by decide)) (g := (mkF m 64 #[.val (.int p0), .val (.int p1), .val (.ref b1), .val (.ref a_NOT_IMPLEMENTED), .unset] [(.ref a_NOT_IMPLEMENTED)])) rfl (by rw [hml]; rfl) (argsL := [(.ref a_NOT_IMPLEMENTED)]) (rest := []) (lenOf pd__Lcom_example_kwota_kwota_server_ErrorReason__I rfl) rfl (by show 2 * 0 + _ ≤ _; exact Nat.le_of_eq rfl) (hb hby at_64) (fun _ _ => ⟨rfl, e33, (by decide : 1 + 0 ≤ _), (by decide : 8 + 0 ≤ _)⟩)
    dsimp only [Pt.U, Pt.locs, Pt.cells, Pt.slots] at X76 l76 y76 z76 st76 hQ76
    subst l76 y76 z76
    obtain ⟨rfl, N76q, hp76⟩ := hQ76
    have N76 := Fr.app N33 N76q
    obtain ⟨_, _, ⟨T77, L77, k77, n77⟩, -, X77, ⟨Lc77, hQ77, l77, y77, z77⟩, st77⟩ := Jvm.LawKit.callS X76 hx (y := own_m2) hown (mvT hZ (own_w hw 24 rfl)) (mvT hZ (own_w hw 25 rfl)) (mvT hZ (own_w hw 22 rfl)) (mvT hZ (own_w hw 26 rfl)) (by decide) (backOf (W := 0) (rm_fits l Z a0 hw [] p0 _ _ _ _ _ _ _ _ h33 n0 O33 hE) hZ (own_w hw 26 rfl) (own_w hw 22 rfl) (by decide) (by decide)) (g := (mkF m 70 #[.val (.int p0), .val (.int p1), .val (.ref b1), .val (.ref a_NOT_IMPLEMENTED), .val (.int (501 : Int32))] [(.int p0)])) rfl (by rw [hml]; rfl) (argsL := [(.int p0)]) (rest := []) (lenOf pd__I_Z rfl) rfl (by show 2 * 0 + _ ≤ _; exact Nat.le_of_eq rfl) (hb hby at_70) (fun _ _ => ⟨rfl, hp76, (by decide : 1 + 0 ≤ _), (by decide : 8 + 0 ≤ _)⟩)
    dsimp only [Pt.U, Pt.locs, Pt.cells, Pt.slots] at X77 l77 y77 z77 st77 hQ77
    subst l77 y77 z77
    obtain ⟨rfl, N77q, hp77⟩ := hQ77
    have N77 := Fr.app N76 N77q
    obtain ⟨_, _, ⟨T78, L78, k78, n78⟩, -, X78, ⟨Lc78, hQ78, l78, y78, z78⟩, st78⟩ := Jvm.LawKit.callS X77 hx (y := own_m0) hown (mvT hZ (own_w hw 27 rfl)) (mvT hZ (own_w hw 28 rfl)) (mvT hZ (own_w hw 3 rfl)) (mvT hZ (own_w hw 29 rfl)) (by decide) (backOf (W := 0) (rm_f16 l Z a0 hw []  _ _ _ _ _ _ _ _ h33 n0 O33 hE) hZ (own_w hw 29 rfl) (own_w hw 3 rfl) (by decide) (by decide)) (g := (mkF m 78 #[.val (.int p0), .val (.int p1), .val (.ref b1), .val (.ref a_NOT_IMPLEMENTED), .val (.int (501 : Int32))] [(.int (501 : Int32))])) rfl (by rw [hml]; rfl) (argsL := [(.int (501 : Int32))]) (rest := []) (lenOf pd__I_Lcom_example_kwota_kwota_server_ErrorReason_ rfl) rfl (by show 2 * 0 + _ ≤ _; exact Nat.le_of_eq rfl) (hb hby at_78) (fun _ _ => ⟨rfl, hp77, (by decide : 1 + 0 ≤ _), (by decide : 8 + 0 ≤ _)⟩)
    dsimp only [Pt.U, Pt.locs, Pt.cells, Pt.slots] at X78 l78 y78 z78 st78 hQ78
    subst l78 y78 z78
    obtain ⟨rfl, N78q, hp78⟩ := hQ78
    have N78 := Fr.app N77 N78q
    obtain ⟨_, _, ⟨T79, L79, k79, n79⟩, -, X79, ⟨Lc79, hQ79, l79, y79, z79⟩, st79⟩ := Jvm.LawKit.callS X78 hx (y := own_m2) hown (mvT hZ (own_w hw 24 rfl)) (mvT hZ (own_w hw 25 rfl)) (mvT hZ (own_w hw 22 rfl)) (mvT hZ (own_w hw 26 rfl)) (by decide) (backOf (W := 0) (rm_f15 l Z a0 hw []  _ _ _ _ _ _ _ _ h33 n0 O33 hE) hZ (own_w hw 26 rfl) (own_w hw 22 rfl) (by decide) (by decide)) (g := (mkF m 87 #[.val (.int p0), .val (.int p1), .val (.ref b1), .val (.ref a_NOT_IMPLEMENTED), .val (.int (501 : Int32))] [(.int (501 : Int32))])) rfl (by rw [hml]; rfl) (argsL := [(.int (501 : Int32))]) (rest := []) (lenOf pd__I_Z rfl) rfl (by show 2 * 0 + _ ≤ _; exact Nat.le_of_eq rfl) (hb hby at_87) (fun _ _ => ⟨rfl, hp78, (by decide : 1 + 0 ≤ _), (by decide : 8 + 0 ≤ _)⟩)
    dsimp only [Pt.U, Pt.locs, Pt.cells, Pt.slots] at X79 l79 y79 z79 st79 hQ79
    subst l79 y79 z79
    obtain ⟨rfl, N79q, hp79⟩ := hQ79
    have N79 := Fr.app N78 N79q
    have k80 : ∀ t, own_At p e below m T79 98 #[.val (.int p0), .val (.int p1), .val (.ref b1), .val (.ref a_NOT_IMPLEMENTED), .val (.int (501 : Int32))] [(.int (1 : Int32))] t → own_En p e below m s₁ #[(.int p0), (.int p1)] maxLocals t := by
      intro t k
      refine k72 t ?_
      refine X33.aaload hx (j := (4 : Int32)) (v := (.ref a_NOT_IMPLEMENTED)) (by rw [e33]; exact Ar73.1) (State.isArrayOf_alike hZ.alike Ar73.2.1) rfl Ar73.2.2 hin74 hat75 (g := (mkF m 61 #[.val (.int p0), .val (.int p1), .val (.ref b1), .unset, .unset] [(.int (4 : Int32)), (.ref b1)])) rfl rfl (hb hby at_61) _ ?_
      show own_At p e below m T33 62 #[.val (.int p0), .val (.int p1), .val (.ref b1), .unset, .unset] [(.ref a_NOT_IMPLEMENTED)] t
      refine XS.astoreN X33.here hx rfl (hb hby at_62) rfl rfl (l' := #[.val (.int p0), .val (.int p1), .val (.ref b1), .val (.ref a_NOT_IMPLEMENTED), .unset]) rfl ?_
      show own_At p e below m T33 63 #[.val (.int p0), .val (.int p1), .val (.ref b1), .val (.ref a_NOT_IMPLEMENTED), .unset] [] t
      refine XS.aloadN X33.here hx rfl (hb hby at_63) rfl rfl ?_
      show own_At p e below m T33 64 #[.val (.int p0), .val (.int p1), .val (.ref b1), .val (.ref a_NOT_IMPLEMENTED), .unset] [(.ref a_NOT_IMPLEMENTED)] t
      refine st76 _ ?_
      show own_At p e below m T76 67 #[.val (.int p0), .val (.int p1), .val (.ref b1), .val (.ref a_NOT_IMPLEMENTED), .unset] [(.int (501 : Int32))] t
      refine XS.istore X76.here hx rfl (hb hby at_67) rfl (l' := #[.val (.int p0), .val (.int p1), .val (.ref b1), .val (.ref a_NOT_IMPLEMENTED), .val (.int (501 : Int32))]) rfl ?_
      show own_At p e below m T76 69 #[.val (.int p0), .val (.int p1), .val (.ref b1), .val (.ref a_NOT_IMPLEMENTED), .val (.int (501 : Int32))] [] t
      refine XS.iloadN X76.here hx rfl (hb hby at_69) rfl ?_
      show own_At p e below m T76 70 #[.val (.int p0), .val (.int p1), .val (.ref b1), .val (.ref a_NOT_IMPLEMENTED), .val (.int (501 : Int32))] [(.int p0)] t
      refine st77 _ ?_
      show own_At p e below m T77 73 #[.val (.int p0), .val (.int p1), .val (.ref b1), .val (.ref a_NOT_IMPLEMENTED), .val (.int (501 : Int32))] [(.int (1 : Int32))] t
      refine XS.ifNo X77.here hx rfl (hb hby at_73) rfl ((if0 _ _).trans (feq (by decide : ¬ ((1 : Int32) = (0 : Int32)))).1) ?_
      show own_At p e below m T77 76 #[.val (.int p0), .val (.int p1), .val (.ref b1), .val (.ref a_NOT_IMPLEMENTED), .val (.int (501 : Int32))] [] t
      refine XS.iload X77.here hx rfl (hb hby at_76) rfl ?_
      show own_At p e below m T77 78 #[.val (.int p0), .val (.int p1), .val (.ref b1), .val (.ref a_NOT_IMPLEMENTED), .val (.int (501 : Int32))] [(.int (501 : Int32))] t
      refine st78 _ ?_
      show own_At p e below m T78 81 #[.val (.int p0), .val (.int p1), .val (.ref b1), .val (.ref a_NOT_IMPLEMENTED), .val (.int (501 : Int32))] [(.ref a_NOT_IMPLEMENTED)] t
      refine XS.aloadN X78.here hx rfl (hb hby at_81) rfl rfl ?_
      show own_At p e below m T78 82 #[.val (.int p0), .val (.int p1), .val (.ref b1), .val (.ref a_NOT_IMPLEMENTED), .val (.int (501 : Int32))] [(.ref a_NOT_IMPLEMENTED), (.ref a_NOT_IMPLEMENTED)] t
      refine Jvm.RoadKit.acmp (g := (mkF m 82 #[.val (.int p0), .val (.int p1), .val (.ref b1), .val (.ref a_NOT_IMPLEMENTED), .val (.int (501 : Int32))] [(.ref a_NOT_IMPLEMENTED), (.ref a_NOT_IMPLEMENTED)])) X78 hx rfl rfl rfl (pc0 := 82) (pc' := 85) (same := true) rfl (hb hby at_82) rfl (decide_eq_true rfl) (by decide) (by decide) ?_
      show own_At p e below m T78 85 #[.val (.int p0), .val (.int p1), .val (.ref b1), .val (.ref a_NOT_IMPLEMENTED), .val (.int (501 : Int32))] [] t
      refine XS.iload X78.here hx rfl (hb hby at_85) rfl ?_
      show own_At p e below m T78 87 #[.val (.int p0), .val (.int p1), .val (.ref b1), .val (.ref a_NOT_IMPLEMENTED), .val (.int (501 : Int32))] [(.int (501 : Int32))] t
      refine st79 _ ?_
      show own_At p e below m T79 90 #[.val (.int p0), .val (.int p1), .val (.ref b1), .val (.ref a_NOT_IMPLEMENTED), .val (.int (501 : Int32))] [(.int (1 : Int32))] t
      refine XS.ifNo X79.here hx rfl (hb hby at_90) rfl ((if0 _ _).trans (feq (by decide : ¬ ((1 : Int32) = (0 : Int32)))).1) ?_
      show own_At p e below m T79 93 #[.val (.int p0), .val (.int p1), .val (.ref b1), .val (.ref a_NOT_IMPLEMENTED), .val (.int (501 : Int32))] [] t
      refine XS.iconst X79.here hx rfl (hb hby at_93) ?_
      show own_At p e below m T79 94 #[.val (.int p0), .val (.int p1), .val (.ref b1), .val (.ref a_NOT_IMPLEMENTED), .val (.int (501 : Int32))] [(.int (1 : Int32))] t
      refine XS.goto X79.here hx rfl (pc0 := 94) (pc' := 98) rfl (hb hby at_94) (by decide) (by decide) ?_
      show own_At p e below m T79 98 #[.val (.int p0), .val (.int p1), .val (.ref b1), .val (.ref a_NOT_IMPLEMENTED), .val (.int (501 : Int32))] [(.int (1 : Int32))] t
      exact k
    obtain ⟨fs, hr, hrun, hended, hW, hsame⟩ := X79.leave (v := some (.int (1 : Int32))) (fun h => by rw [Bd.returns] at h; cases h)
    refine hNG ⟨_, _, k80 _ ?_, hrun, hended, _, _, rfl, ?_, ⟨_, rfl⟩, hW, hsame.mono (by decide) (by decide)⟩
    · exact retN X79 hx (t := .boolean) Bd.returns (by simp) (hb hby at_98) hr
    · show Q_law Z p0 p1 a_PATH_NOT_FOUND a_METHOD_NOT_ALLOWED a_UNSUPPORTED_MEDIA_TYPE a_EXPECTATION_FAILED a_NOT_IMPLEMENTED a_HTTP_VERSION_NOT_SUPPORTED a_MALFORMED_REQUEST a_INTERNAL_ERROR h0 n0 _ T79.heap _
      rw [hp79]
      exact ⟨rfl, N79⟩
  · have k81 : ∀ t, own_At p e below m T33 61 #[.val (.int p0), .val (.int p1), .val (.ref b1), .unset, .unset] [(.int (5 : Int32)), (.ref b1)] t → own_En p e below m s₁ #[(.int p0), (.int p1)] maxLocals t := by
      intro t k
      refine k34 t ?_
      rw [hs35]
      exact k
    obtain ⟨cl82, Ar82, q82, Sz82, Nn82, Hs82, Gf82⟩ := id V33
    have hin83 : ¬ ((5 : Int32) < 0 ∨ cl82.slots.size ≤ ((5 : Int32)).toNatClampNeg) := inb_of Sz82 ⟨by decide, by decide⟩
    have hat84 : cl82.slots[((5 : Int32)).toNatClampNeg]? = some (.ref a_HTTP_VERSION_NOT_SUPPORTED) := Hs82.at hin83 rfl
    obtain ⟨_, _, ⟨T85, L85, k85, n85⟩, -, X85, ⟨Lc85, hQ85, l85, y85, z85⟩, st85⟩ := Jvm.LawKit.callS X33 hx (y := own_m1) hown (mvT hZ (own_w hw 20 rfl)) (mvT hZ (own_w hw 21 rfl)) (mvT hZ (own_w hw 22 rfl)) (mvT hZ (own_w hw 23 rfl)) (by decide) (backOf (W := 0) (rm_f20 l Z a0 hw []  _ _ _ _ _ _ _ _ h33 n0 O33 hE) hZ (own_w hw 23 rfl) (own_w hw 22 rfl) (by decide) (by decide)) (g := (mkF m 64 #[.val (.int p0), .val (.int p1), .val (.ref b1), .val (.ref a_HTTP_VERSION_NOT_SUPPORTED), .unset] [(.ref a_HTTP_VERSION_NOT_SUPPORTED)])) rfl (by rw [hml]; rfl) (argsL := [(.ref a_HTTP_VERSION_NOT_SUPPORTED)]) (rest := []) (lenOf pd__Lcom_example_kwota_kwota_server_ErrorReason__I rfl) rfl (by show 2 * 0 + _ ≤ _; exact Nat.le_of_eq rfl) (hb hby at_64) (fun _ _ => ⟨rfl, e33, (by decide : 1 + 0 ≤ _), (by decide : 8 + 0 ≤ _)⟩)
    dsimp only [Pt.U, Pt.locs, Pt.cells, Pt.slots] at X85 l85 y85 z85 st85 hQ85
    subst l85 y85 z85
    obtain ⟨rfl, N85q, hp85⟩ := hQ85
    have N85 := Fr.app N33 N85q
    obtain ⟨_, _, ⟨T86, L86, k86, n86⟩, -, X86, ⟨Lc86, hQ86, l86, y86, z86⟩, st86⟩ := Jvm.LawKit.callS X85 hx (y := own_m2) hown (mvT hZ (own_w hw 24 rfl)) (mvT hZ (own_w hw 25 rfl)) (mvT hZ (own_w hw 22 rfl)) (mvT hZ (own_w hw 26 rfl)) (by decide) (backOf (W := 0) (rm_fits l Z a0 hw [] p0 _ _ _ _ _ _ _ _ h33 n0 O33 hE) hZ (own_w hw 26 rfl) (own_w hw 22 rfl) (by decide) (by decide)) (g := (mkF m 70 #[.val (.int p0), .val (.int p1), .val (.ref b1), .val (.ref a_HTTP_VERSION_NOT_SUPPORTED), .val (.int (505 : Int32))] [(.int p0)])) rfl (by rw [hml]; rfl) (argsL := [(.int p0)]) (rest := []) (lenOf pd__I_Z rfl) rfl (by show 2 * 0 + _ ≤ _; exact Nat.le_of_eq rfl) (hb hby at_70) (fun _ _ => ⟨rfl, hp85, (by decide : 1 + 0 ≤ _), (by decide : 8 + 0 ≤ _)⟩)
    dsimp only [Pt.U, Pt.locs, Pt.cells, Pt.slots] at X86 l86 y86 z86 st86 hQ86
    subst l86 y86 z86
    obtain ⟨rfl, N86q, hp86⟩ := hQ86
    have N86 := Fr.app N85 N86q
    obtain ⟨_, _, ⟨T87, L87, k87, n87⟩, -, X87, ⟨Lc87, hQ87, l87, y87, z87⟩, st87⟩ := Jvm.LawKit.callS X86 hx (y := own_m0) hown (mvT hZ (own_w hw 27 rfl)) (mvT hZ (own_w hw 28 rfl)) (mvT hZ (own_w hw 3 rfl)) (mvT hZ (own_w hw 29 rfl)) (by decide) (backOf (W := 0) (rm_f19 l Z a0 hw []  _ _ _ _ _ _ _ _ h33 n0 O33 hE) hZ (own_w hw 29 rfl) (own_w hw 3 rfl) (by decide) (by decide)) (g := (mkF m 78 #[.val (.int p0), .val (.int p1), .val (.ref b1), .val (.ref a_HTTP_VERSION_NOT_SUPPORTED), .val (.int (505 : Int32))] [(.int (505 : Int32))])) rfl (by rw [hml]; rfl) (argsL := [(.int (505 : Int32))]) (rest := []) (lenOf pd__I_Lcom_example_kwota_kwota_server_ErrorReason_ rfl) rfl (by show 2 * 0 + _ ≤ _; exact Nat.le_of_eq rfl) (hb hby at_78) (fun _ _ => ⟨rfl, hp86, (by decide : 1 + 0 ≤ _), (by decide : 8 + 0 ≤ _)⟩)
    dsimp only [Pt.U, Pt.locs, Pt.cells, Pt.slots] at X87 l87 y87 z87 st87 hQ87
    subst l87 y87 z87
    obtain ⟨rfl, N87q, hp87⟩ := hQ87
    have N87 := Fr.app N86 N87q
    obtain ⟨_, _, ⟨T88, L88, k88, n88⟩, -, X88, ⟨Lc88, hQ88, l88, y88, z88⟩, st88⟩ := Jvm.LawKit.callS X87 hx (y := own_m2) hown (mvT hZ (own_w hw 24 rfl)) (mvT hZ (own_w hw 25 rfl)) (mvT hZ (own_w hw 22 rfl)) (mvT hZ (own_w hw 26 rfl)) (by decide) (backOf (W := 0) (rm_f18 l Z a0 hw []  _ _ _ _ _ _ _ _ h33 n0 O33 hE) hZ (own_w hw 26 rfl) (own_w hw 22 rfl) (by decide) (by decide)) (g := (mkF m 87 #[.val (.int p0), .val (.int p1), .val (.ref b1), .val (.ref a_HTTP_VERSION_NOT_SUPPORTED), .val (.int (505 : Int32))] [(.int (505 : Int32))])) rfl (by rw [hml]; rfl) (argsL := [(.int (505 : Int32))]) (rest := []) (lenOf pd__I_Z rfl) rfl (by show 2 * 0 + _ ≤ _; exact Nat.le_of_eq rfl) (hb hby at_87) (fun _ _ => ⟨rfl, hp87, (by decide : 1 + 0 ≤ _), (by decide : 8 + 0 ≤ _)⟩)
    dsimp only [Pt.U, Pt.locs, Pt.cells, Pt.slots] at X88 l88 y88 z88 st88 hQ88
    subst l88 y88 z88
    obtain ⟨rfl, N88q, hp88⟩ := hQ88
    have N88 := Fr.app N87 N88q
    have k89 : ∀ t, own_At p e below m T88 98 #[.val (.int p0), .val (.int p1), .val (.ref b1), .val (.ref a_HTTP_VERSION_NOT_SUPPORTED), .val (.int (505 : Int32))] [(.int (1 : Int32))] t → own_En p e below m s₁ #[(.int p0), (.int p1)] maxLocals t := by
      intro t k
      refine k81 t ?_
      refine X33.aaload hx (j := (5 : Int32)) (v := (.ref a_HTTP_VERSION_NOT_SUPPORTED)) (by rw [e33]; exact Ar82.1) (State.isArrayOf_alike hZ.alike Ar82.2.1) rfl Ar82.2.2 hin83 hat84 (g := (mkF m 61 #[.val (.int p0), .val (.int p1), .val (.ref b1), .unset, .unset] [(.int (5 : Int32)), (.ref b1)])) rfl rfl (hb hby at_61) _ ?_
      show own_At p e below m T33 62 #[.val (.int p0), .val (.int p1), .val (.ref b1), .unset, .unset] [(.ref a_HTTP_VERSION_NOT_SUPPORTED)] t
      refine XS.astoreN X33.here hx rfl (hb hby at_62) rfl rfl (l' := #[.val (.int p0), .val (.int p1), .val (.ref b1), .val (.ref a_HTTP_VERSION_NOT_SUPPORTED), .unset]) rfl ?_
      show own_At p e below m T33 63 #[.val (.int p0), .val (.int p1), .val (.ref b1), .val (.ref a_HTTP_VERSION_NOT_SUPPORTED), .unset] [] t
      refine XS.aloadN X33.here hx rfl (hb hby at_63) rfl rfl ?_
      show own_At p e below m T33 64 #[.val (.int p0), .val (.int p1), .val (.ref b1), .val (.ref a_HTTP_VERSION_NOT_SUPPORTED), .unset] [(.ref a_HTTP_VERSION_NOT_SUPPORTED)] t
      refine st85 _ ?_
      show own_At p e below m T85 67 #[.val (.int p0), .val (.int p1), .val (.ref b1), .val (.ref a_HTTP_VERSION_NOT_SUPPORTED), .unset] [(.int (505 : Int32))] t
      refine XS.istore X85.here hx rfl (hb hby at_67) rfl (l' := #[.val (.int p0), .val (.int p1), .val (.ref b1), .val (.ref a_HTTP_VERSION_NOT_SUPPORTED), .val (.int (505 : Int32))]) rfl ?_
      show own_At p e below m T85 69 #[.val (.int p0), .val (.int p1), .val (.ref b1), .val (.ref a_HTTP_VERSION_NOT_SUPPORTED), .val (.int (505 : Int32))] [] t
      refine XS.iloadN X85.here hx rfl (hb hby at_69) rfl ?_
      show own_At p e below m T85 70 #[.val (.int p0), .val (.int p1), .val (.ref b1), .val (.ref a_HTTP_VERSION_NOT_SUPPORTED), .val (.int (505 : Int32))] [(.int p0)] t
      refine st86 _ ?_
      show own_At p e below m T86 73 #[.val (.int p0), .val (.int p1), .val (.ref b1), .val (.ref a_HTTP_VERSION_NOT_SUPPORTED), .val (.int (505 : Int32))] [(.int (1 : Int32))] t
      refine XS.ifNo X86.here hx rfl (hb hby at_73) rfl ((if0 _ _).trans (feq (by decide : ¬ ((1 : Int32) = (0 : Int32)))).1) ?_
      show own_At p e below m T86 76 #[.val (.int p0), .val (.int p1), .val (.ref b1), .val (.ref a_HTTP_VERSION_NOT_SUPPORTED), .val (.int (505 : Int32))] [] t
      refine XS.iload X86.here hx rfl (hb hby at_76) rfl ?_
      show own_At p e below m T86 78 #[.val (.int p0), .val (.int p1), .val (.ref b1), .val (.ref a_HTTP_VERSION_NOT_SUPPORTED), .val (.int (505 : Int32))] [(.int (505 : Int32))] t
      refine st87 _ ?_
      show own_At p e below m T87 81 #[.val (.int p0), .val (.int p1), .val (.ref b1), .val (.ref a_HTTP_VERSION_NOT_SUPPORTED), .val (.int (505 : Int32))] [(.ref a_HTTP_VERSION_NOT_SUPPORTED)] t
      refine XS.aloadN X87.here hx rfl (hb hby at_81) rfl rfl ?_
      show own_At p e below m T87 82 #[.val (.int p0), .val (.int p1), .val (.ref b1), .val (.ref a_HTTP_VERSION_NOT_SUPPORTED), .val (.int (505 : Int32))] [(.ref a_HTTP_VERSION_NOT_SUPPORTED), (.ref a_HTTP_VERSION_NOT_SUPPORTED)] t
      refine Jvm.RoadKit.acmp (g := (mkF m 82 #[.val (.int p0), .val (.int p1), .val (.ref b1), .val (.ref a_HTTP_VERSION_NOT_SUPPORTED), .val (.int (505 : Int32))] [(.ref a_HTTP_VERSION_NOT_SUPPORTED), (.ref a_HTTP_VERSION_NOT_SUPPORTED)])) X87 hx rfl rfl rfl (pc0 := 82) (pc' := 85) (same := true) rfl (hb hby at_82) rfl (decide_eq_true rfl) (by decide) (by decide) ?_
      show own_At p e below m T87 85 #[.val (.int p0), .val (.int p1), .val (.ref b1), .val (.ref a_HTTP_VERSION_NOT_SUPPORTED), .val (.int (505 : Int32))] [] t
      refine XS.iload X87.here hx rfl (hb hby at_85) rfl ?_
      show own_At p e below m T87 87 #[.val (.int p0), .val (.int p1), .val (.ref b1), .val (.ref a_HTTP_VERSION_NOT_SUPPORTED), .val (.int (505 : Int32))] [(.int (505 : Int32))] t
      refine st88 _ ?_
      show own_At p e below m T88 90 #[.val (.int p0), .val (.int p1), .val (.ref b1), .val (.ref a_HTTP_VERSION_NOT_SUPPORTED), .val (.int (505 : Int32))] [(.int (1 : Int32))] t
      refine XS.ifNo X88.here hx rfl (hb hby at_90) rfl ((if0 _ _).trans (feq (by decide : ¬ ((1 : Int32) = (0 : Int32)))).1) ?_
      show own_At p e below m T88 93 #[.val (.int p0), .val (.int p1), .val (.ref b1), .val (.ref a_HTTP_VERSION_NOT_SUPPORTED), .val (.int (505 : Int32))] [] t
      refine XS.iconst X88.here hx rfl (hb hby at_93) ?_
      show own_At p e below m T88 94 #[.val (.int p0), .val (.int p1), .val (.ref b1), .val (.ref a_HTTP_VERSION_NOT_SUPPORTED), .val (.int (505 : Int32))] [(.int (1 : Int32))] t
      refine XS.goto X88.here hx rfl (pc0 := 94) (pc' := 98) rfl (hb hby at_94) (by decide) (by decide) ?_
      show own_At p e below m T88 98 #[.val (.int p0), .val (.int p1), .val (.ref b1), .val (.ref a_HTTP_VERSION_NOT_SUPPORTED), .val (.int (505 : Int32))] [(.int (1 : Int32))] t
      exact k
    obtain ⟨fs, hr, hrun, hended, hW, hsame⟩ := X88.leave (v := some (.int (1 : Int32))) (fun h => by rw [Bd.returns] at h; cases h)
    refine hNG ⟨_, _, k89 _ ?_, hrun, hended, _, _, rfl, ?_, ⟨_, rfl⟩, hW, hsame.mono (by decide) (by decide)⟩
    · exact retN X88 hx (t := .boolean) Bd.returns (by simp) (hb hby at_98) hr
    · show Q_law Z p0 p1 a_PATH_NOT_FOUND a_METHOD_NOT_ALLOWED a_UNSUPPORTED_MEDIA_TYPE a_EXPECTATION_FAILED a_NOT_IMPLEMENTED a_HTTP_VERSION_NOT_SUPPORTED a_MALFORMED_REQUEST a_INTERNAL_ERROR h0 n0 _ T88.heap _
      rw [hp88]
      exact ⟨rfl, N88⟩
  · have k90 : ∀ t, own_At p e below m T33 61 #[.val (.int p0), .val (.int p1), .val (.ref b1), .unset, .unset] [(.int (6 : Int32)), (.ref b1)] t → own_En p e below m s₁ #[(.int p0), (.int p1)] maxLocals t := by
      intro t k
      refine k34 t ?_
      rw [hs35]
      exact k
    obtain ⟨cl91, Ar91, q91, Sz91, Nn91, Hs91, Gf91⟩ := id V33
    have hin92 : ¬ ((6 : Int32) < 0 ∨ cl91.slots.size ≤ ((6 : Int32)).toNatClampNeg) := inb_of Sz91 ⟨by decide, by decide⟩
    have hat93 : cl91.slots[((6 : Int32)).toNatClampNeg]? = some (.ref a_MALFORMED_REQUEST) := Hs91.at hin92 rfl
    obtain ⟨_, _, ⟨T94, L94, k94, n94⟩, -, X94, ⟨Lc94, hQ94, l94, y94, z94⟩, st94⟩ := Jvm.LawKit.callS X33 hx (y := own_m1) hown (mvT hZ (own_w hw 20 rfl)) (mvT hZ (own_w hw 21 rfl)) (mvT hZ (own_w hw 22 rfl)) (mvT hZ (own_w hw 23 rfl)) (by decide) (backOf (W := 0) (rm_f1 l Z a0 hw []  _ _ _ _ _ _ _ _ h33 n0 O33 hE) hZ (own_w hw 23 rfl) (own_w hw 22 rfl) (by decide) (by decide)) (g := (mkF m 64 #[.val (.int p0), .val (.int p1), .val (.ref b1), .val (.ref a_MALFORMED_REQUEST), .unset] [(.ref a_MALFORMED_REQUEST)])) rfl (by rw [hml]; rfl) (argsL := [(.ref a_MALFORMED_REQUEST)]) (rest := []) (lenOf pd__Lcom_example_kwota_kwota_server_ErrorReason__I rfl) rfl (by show 2 * 0 + _ ≤ _; exact Nat.le_of_eq rfl) (hb hby at_64) (fun _ _ => ⟨rfl, e33, (by decide : 1 + 0 ≤ _), (by decide : 8 + 0 ≤ _)⟩)
    dsimp only [Pt.U, Pt.locs, Pt.cells, Pt.slots] at X94 l94 y94 z94 st94 hQ94
    subst l94 y94 z94
    obtain ⟨rfl, N94q, hp94⟩ := hQ94
    have N94 := Fr.app N33 N94q
    obtain ⟨_, _, ⟨T95, L95, k95, n95⟩, -, X95, ⟨Lc95, hQ95, l95, y95, z95⟩, st95⟩ := Jvm.LawKit.callS X94 hx (y := own_m2) hown (mvT hZ (own_w hw 24 rfl)) (mvT hZ (own_w hw 25 rfl)) (mvT hZ (own_w hw 22 rfl)) (mvT hZ (own_w hw 26 rfl)) (by decide) (backOf (W := 0) (rm_fits l Z a0 hw [] p0 _ _ _ _ _ _ _ _ h33 n0 O33 hE) hZ (own_w hw 26 rfl) (own_w hw 22 rfl) (by decide) (by decide)) (g := (mkF m 70 #[.val (.int p0), .val (.int p1), .val (.ref b1), .val (.ref a_MALFORMED_REQUEST), .val (.int (400 : Int32))] [(.int p0)])) rfl (by rw [hml]; rfl) (argsL := [(.int p0)]) (rest := []) (lenOf pd__I_Z rfl) rfl (by show 2 * 0 + _ ≤ _; exact Nat.le_of_eq rfl) (hb hby at_70) (fun _ _ => ⟨rfl, hp94, (by decide : 1 + 0 ≤ _), (by decide : 8 + 0 ≤ _)⟩)
    dsimp only [Pt.U, Pt.locs, Pt.cells, Pt.slots] at X95 l95 y95 z95 st95 hQ95
    subst l95 y95 z95
    obtain ⟨rfl, N95q, hp95⟩ := hQ95
    have N95 := Fr.app N94 N95q
    obtain ⟨_, _, ⟨T96, L96, k96, n96⟩, -, X96, ⟨Lc96, hQ96, l96, y96, z96⟩, st96⟩ := Jvm.LawKit.callS X95 hx (y := own_m0) hown (mvT hZ (own_w hw 27 rfl)) (mvT hZ (own_w hw 28 rfl)) (mvT hZ (own_w hw 3 rfl)) (mvT hZ (own_w hw 29 rfl)) (by decide) (backOf (W := 0) (rm_f21 l Z a0 hw []  _ _ _ _ _ _ _ _ h33 n0 O33 hE) hZ (own_w hw 29 rfl) (own_w hw 3 rfl) (by decide) (by decide)) (g := (mkF m 78 #[.val (.int p0), .val (.int p1), .val (.ref b1), .val (.ref a_MALFORMED_REQUEST), .val (.int (400 : Int32))] [(.int (400 : Int32))])) rfl (by rw [hml]; rfl) (argsL := [(.int (400 : Int32))]) (rest := []) (lenOf pd__I_Lcom_example_kwota_kwota_server_ErrorReason_ rfl) rfl (by show 2 * 0 + _ ≤ _; exact Nat.le_of_eq rfl) (hb hby at_78) (fun _ _ => ⟨rfl, hp95, (by decide : 1 + 0 ≤ _), (by decide : 8 + 0 ≤ _)⟩)
    dsimp only [Pt.U, Pt.locs, Pt.cells, Pt.slots] at X96 l96 y96 z96 st96 hQ96
    subst l96 y96 z96
    obtain ⟨rfl, N96q, hp96⟩ := hQ96
    have N96 := Fr.app N95 N96q
    obtain ⟨_, _, ⟨T97, L97, k97, n97⟩, -, X97, ⟨Lc97, hQ97, l97, y97, z97⟩, st97⟩ := Jvm.LawKit.callS X96 hx (y := own_m2) hown (mvT hZ (own_w hw 24 rfl)) (mvT hZ (own_w hw 25 rfl)) (mvT hZ (own_w hw 22 rfl)) (mvT hZ (own_w hw 26 rfl)) (by decide) (backOf (W := 0) (rm_f22 l Z a0 hw []  _ _ _ _ _ _ _ _ h33 n0 O33 hE) hZ (own_w hw 26 rfl) (own_w hw 22 rfl) (by decide) (by decide)) (g := (mkF m 87 #[.val (.int p0), .val (.int p1), .val (.ref b1), .val (.ref a_MALFORMED_REQUEST), .val (.int (400 : Int32))] [(.int (400 : Int32))])) rfl (by rw [hml]; rfl) (argsL := [(.int (400 : Int32))]) (rest := []) (lenOf pd__I_Z rfl) rfl (by show 2 * 0 + _ ≤ _; exact Nat.le_of_eq rfl) (hb hby at_87) (fun _ _ => ⟨rfl, hp96, (by decide : 1 + 0 ≤ _), (by decide : 8 + 0 ≤ _)⟩)
    dsimp only [Pt.U, Pt.locs, Pt.cells, Pt.slots] at X97 l97 y97 z97 st97 hQ97
    subst l97 y97 z97
    obtain ⟨rfl, N97q, hp97⟩ := hQ97
    have N97 := Fr.app N96 N97q
    have k98 : ∀ t, own_At p e below m T97 98 #[.val (.int p0), .val (.int p1), .val (.ref b1), .val (.ref a_MALFORMED_REQUEST), .val (.int (400 : Int32))] [(.int (1 : Int32))] t → own_En p e below m s₁ #[(.int p0), (.int p1)] maxLocals t := by
      intro t k
      refine k90 t ?_
      refine X33.aaload hx (j := (6 : Int32)) (v := (.ref a_MALFORMED_REQUEST)) (by rw [e33]; exact Ar91.1) (State.isArrayOf_alike hZ.alike Ar91.2.1) rfl Ar91.2.2 hin92 hat93 (g := (mkF m 61 #[.val (.int p0), .val (.int p1), .val (.ref b1), .unset, .unset] [(.int (6 : Int32)), (.ref b1)])) rfl rfl (hb hby at_61) _ ?_
      show own_At p e below m T33 62 #[.val (.int p0), .val (.int p1), .val (.ref b1), .unset, .unset] [(.ref a_MALFORMED_REQUEST)] t
      refine XS.astoreN X33.here hx rfl (hb hby at_62) rfl rfl (l' := #[.val (.int p0), .val (.int p1), .val (.ref b1), .val (.ref a_MALFORMED_REQUEST), .unset]) rfl ?_
      show own_At p e below m T33 63 #[.val (.int p0), .val (.int p1), .val (.ref b1), .val (.ref a_MALFORMED_REQUEST), .unset] [] t
      refine XS.aloadN X33.here hx rfl (hb hby at_63) rfl rfl ?_
      show own_At p e below m T33 64 #[.val (.int p0), .val (.int p1), .val (.ref b1), .val (.ref a_MALFORMED_REQUEST), .unset] [(.ref a_MALFORMED_REQUEST)] t
      refine st94 _ ?_
      show own_At p e below m T94 67 #[.val (.int p0), .val (.int p1), .val (.ref b1), .val (.ref a_MALFORMED_REQUEST), .unset] [(.int (400 : Int32))] t
      refine XS.istore X94.here hx rfl (hb hby at_67) rfl (l' := #[.val (.int p0), .val (.int p1), .val (.ref b1), .val (.ref a_MALFORMED_REQUEST), .val (.int (400 : Int32))]) rfl ?_
      show own_At p e below m T94 69 #[.val (.int p0), .val (.int p1), .val (.ref b1), .val (.ref a_MALFORMED_REQUEST), .val (.int (400 : Int32))] [] t
      refine XS.iloadN X94.here hx rfl (hb hby at_69) rfl ?_
      show own_At p e below m T94 70 #[.val (.int p0), .val (.int p1), .val (.ref b1), .val (.ref a_MALFORMED_REQUEST), .val (.int (400 : Int32))] [(.int p0)] t
      refine st95 _ ?_
      show own_At p e below m T95 73 #[.val (.int p0), .val (.int p1), .val (.ref b1), .val (.ref a_MALFORMED_REQUEST), .val (.int (400 : Int32))] [(.int (1 : Int32))] t
      refine XS.ifNo X95.here hx rfl (hb hby at_73) rfl ((if0 _ _).trans (feq (by decide : ¬ ((1 : Int32) = (0 : Int32)))).1) ?_
      show own_At p e below m T95 76 #[.val (.int p0), .val (.int p1), .val (.ref b1), .val (.ref a_MALFORMED_REQUEST), .val (.int (400 : Int32))] [] t
      refine XS.iload X95.here hx rfl (hb hby at_76) rfl ?_
      show own_At p e below m T95 78 #[.val (.int p0), .val (.int p1), .val (.ref b1), .val (.ref a_MALFORMED_REQUEST), .val (.int (400 : Int32))] [(.int (400 : Int32))] t
      refine st96 _ ?_
      show own_At p e below m T96 81 #[.val (.int p0), .val (.int p1), .val (.ref b1), .val (.ref a_MALFORMED_REQUEST), .val (.int (400 : Int32))] [(.ref a_MALFORMED_REQUEST)] t
      refine XS.aloadN X96.here hx rfl (hb hby at_81) rfl rfl ?_
      show own_At p e below m T96 82 #[.val (.int p0), .val (.int p1), .val (.ref b1), .val (.ref a_MALFORMED_REQUEST), .val (.int (400 : Int32))] [(.ref a_MALFORMED_REQUEST), (.ref a_MALFORMED_REQUEST)] t
      refine Jvm.RoadKit.acmp (g := (mkF m 82 #[.val (.int p0), .val (.int p1), .val (.ref b1), .val (.ref a_MALFORMED_REQUEST), .val (.int (400 : Int32))] [(.ref a_MALFORMED_REQUEST), (.ref a_MALFORMED_REQUEST)])) X96 hx rfl rfl rfl (pc0 := 82) (pc' := 85) (same := true) rfl (hb hby at_82) rfl (decide_eq_true rfl) (by decide) (by decide) ?_
      show own_At p e below m T96 85 #[.val (.int p0), .val (.int p1), .val (.ref b1), .val (.ref a_MALFORMED_REQUEST), .val (.int (400 : Int32))] [] t
      refine XS.iload X96.here hx rfl (hb hby at_85) rfl ?_
      show own_At p e below m T96 87 #[.val (.int p0), .val (.int p1), .val (.ref b1), .val (.ref a_MALFORMED_REQUEST), .val (.int (400 : Int32))] [(.int (400 : Int32))] t
      refine st97 _ ?_
      show own_At p e below m T97 90 #[.val (.int p0), .val (.int p1), .val (.ref b1), .val (.ref a_MALFORMED_REQUEST), .val (.int (400 : Int32))] [(.int (1 : Int32))] t
      refine XS.ifNo X97.here hx rfl (hb hby at_90) rfl ((if0 _ _).trans (feq (by decide : ¬ ((1 : Int32) = (0 : Int32)))).1) ?_
      show own_At p e below m T97 93 #[.val (.int p0), .val (.int p1), .val (.ref b1), .val (.ref a_MALFORMED_REQUEST), .val (.int (400 : Int32))] [] t
      refine XS.iconst X97.here hx rfl (hb hby at_93) ?_
      show own_At p e below m T97 94 #[.val (.int p0), .val (.int p1), .val (.ref b1), .val (.ref a_MALFORMED_REQUEST), .val (.int (400 : Int32))] [(.int (1 : Int32))] t
      refine XS.goto X97.here hx rfl (pc0 := 94) (pc' := 98) rfl (hb hby at_94) (by decide) (by decide) ?_
      show own_At p e below m T97 98 #[.val (.int p0), .val (.int p1), .val (.ref b1), .val (.ref a_MALFORMED_REQUEST), .val (.int (400 : Int32))] [(.int (1 : Int32))] t
      exact k
    obtain ⟨fs, hr, hrun, hended, hW, hsame⟩ := X97.leave (v := some (.int (1 : Int32))) (fun h => by rw [Bd.returns] at h; cases h)
    refine hNG ⟨_, _, k98 _ ?_, hrun, hended, _, _, rfl, ?_, ⟨_, rfl⟩, hW, hsame.mono (by decide) (by decide)⟩
    · exact retN X97 hx (t := .boolean) Bd.returns (by simp) (hb hby at_98) hr
    · show Q_law Z p0 p1 a_PATH_NOT_FOUND a_METHOD_NOT_ALLOWED a_UNSUPPORTED_MEDIA_TYPE a_EXPECTATION_FAILED a_NOT_IMPLEMENTED a_HTTP_VERSION_NOT_SUPPORTED a_MALFORMED_REQUEST a_INTERNAL_ERROR h0 n0 _ T97.heap _
      rw [hp97]
      exact ⟨rfl, N97⟩
  · have k99 : ∀ t, own_At p e below m T33 61 #[.val (.int p0), .val (.int p1), .val (.ref b1), .unset, .unset] [(.int (7 : Int32)), (.ref b1)] t → own_En p e below m s₁ #[(.int p0), (.int p1)] maxLocals t := by
      intro t k
      refine k34 t ?_
      rw [hs35]
      exact k
    obtain ⟨cl100, Ar100, q100, Sz100, Nn100, Hs100, Gf100⟩ := id V33
    have hin101 : ¬ ((7 : Int32) < 0 ∨ cl100.slots.size ≤ ((7 : Int32)).toNatClampNeg) := inb_of Sz100 ⟨by decide, by decide⟩
    have hat102 : cl100.slots[((7 : Int32)).toNatClampNeg]? = some (.ref a_INTERNAL_ERROR) := Hs100.at hin101 rfl
    obtain ⟨_, _, ⟨T103, L103, k103, n103⟩, -, X103, ⟨Lc103, hQ103, l103, y103, z103⟩, st103⟩ := Jvm.LawKit.callS X33 hx (y := own_m1) hown (mvT hZ (own_w hw 20 rfl)) (mvT hZ (own_w hw 21 rfl)) (mvT hZ (own_w hw 22 rfl)) (mvT hZ (own_w hw 23 rfl)) (by decide) (backOf (W := 0) (rm_f2 l Z a0 hw []  _ _ _ _ _ _ _ _ h33 n0 O33 hE) hZ (own_w hw 23 rfl) (own_w hw 22 rfl) (by decide) (by decide)) (g := (mkF m 64 #[.val (.int p0), .val (.int p1), .val (.ref b1), .val (.ref a_INTERNAL_ERROR), .unset] [(.ref a_INTERNAL_ERROR)])) rfl (by rw [hml]; rfl) (argsL := [(.ref a_INTERNAL_ERROR)]) (rest := []) (lenOf pd__Lcom_example_kwota_kwota_server_ErrorReason__I rfl) rfl (by show 2 * 0 + _ ≤ _; exact Nat.le_of_eq rfl) (hb hby at_64) (fun _ _ => ⟨rfl, e33, (by decide : 1 + 0 ≤ _), (by decide : 8 + 0 ≤ _)⟩)
    dsimp only [Pt.U, Pt.locs, Pt.cells, Pt.slots] at X103 l103 y103 z103 st103 hQ103
    subst l103 y103 z103
    obtain ⟨rfl, N103q, hp103⟩ := hQ103
    have N103 := Fr.app N33 N103q
    obtain ⟨_, _, ⟨T104, L104, k104, n104⟩, -, X104, ⟨Lc104, hQ104, l104, y104, z104⟩, st104⟩ := Jvm.LawKit.callS X103 hx (y := own_m2) hown (mvT hZ (own_w hw 24 rfl)) (mvT hZ (own_w hw 25 rfl)) (mvT hZ (own_w hw 22 rfl)) (mvT hZ (own_w hw 26 rfl)) (by decide) (backOf (W := 0) (rm_fits l Z a0 hw [] p0 _ _ _ _ _ _ _ _ h33 n0 O33 hE) hZ (own_w hw 26 rfl) (own_w hw 22 rfl) (by decide) (by decide)) (g := (mkF m 70 #[.val (.int p0), .val (.int p1), .val (.ref b1), .val (.ref a_INTERNAL_ERROR), .val (.int (500 : Int32))] [(.int p0)])) rfl (by rw [hml]; rfl) (argsL := [(.int p0)]) (rest := []) (lenOf pd__I_Z rfl) rfl (by show 2 * 0 + _ ≤ _; exact Nat.le_of_eq rfl) (hb hby at_70) (fun _ _ => ⟨rfl, hp103, (by decide : 1 + 0 ≤ _), (by decide : 8 + 0 ≤ _)⟩)
    dsimp only [Pt.U, Pt.locs, Pt.cells, Pt.slots] at X104 l104 y104 z104 st104 hQ104
    subst l104 y104 z104
    obtain ⟨rfl, N104q, hp104⟩ := hQ104
    have N104 := Fr.app N103 N104q
    obtain ⟨_, _, ⟨T105, L105, k105, n105⟩, -, X105, ⟨Lc105, hQ105, l105, y105, z105⟩, st105⟩ := Jvm.LawKit.callS X104 hx (y := own_m0) hown (mvT hZ (own_w hw 27 rfl)) (mvT hZ (own_w hw 28 rfl)) (mvT hZ (own_w hw 3 rfl)) (mvT hZ (own_w hw 29 rfl)) (by decide) (backOf (W := 0) (rm_f23 l Z a0 hw []  _ _ _ _ _ _ _ _ h33 n0 O33 hE) hZ (own_w hw 29 rfl) (own_w hw 3 rfl) (by decide) (by decide)) (g := (mkF m 78 #[.val (.int p0), .val (.int p1), .val (.ref b1), .val (.ref a_INTERNAL_ERROR), .val (.int (500 : Int32))] [(.int (500 : Int32))])) rfl (by rw [hml]; rfl) (argsL := [(.int (500 : Int32))]) (rest := []) (lenOf pd__I_Lcom_example_kwota_kwota_server_ErrorReason_ rfl) rfl (by show 2 * 0 + _ ≤ _; exact Nat.le_of_eq rfl) (hb hby at_78) (fun _ _ => ⟨rfl, hp104, (by decide : 1 + 0 ≤ _), (by decide : 8 + 0 ≤ _)⟩)
    dsimp only [Pt.U, Pt.locs, Pt.cells, Pt.slots] at X105 l105 y105 z105 st105 hQ105
    subst l105 y105 z105
    obtain ⟨rfl, N105q, hp105⟩ := hQ105
    have N105 := Fr.app N104 N105q
    obtain ⟨_, _, ⟨T106, L106, k106, n106⟩, -, X106, ⟨Lc106, hQ106, l106, y106, z106⟩, st106⟩ := Jvm.LawKit.callS X105 hx (y := own_m2) hown (mvT hZ (own_w hw 24 rfl)) (mvT hZ (own_w hw 25 rfl)) (mvT hZ (own_w hw 22 rfl)) (mvT hZ (own_w hw 26 rfl)) (by decide) (backOf (W := 0) (rm_f24 l Z a0 hw []  _ _ _ _ _ _ _ _ h33 n0 O33 hE) hZ (own_w hw 26 rfl) (own_w hw 22 rfl) (by decide) (by decide)) (g := (mkF m 87 #[.val (.int p0), .val (.int p1), .val (.ref b1), .val (.ref a_INTERNAL_ERROR), .val (.int (500 : Int32))] [(.int (500 : Int32))])) rfl (by rw [hml]; rfl) (argsL := [(.int (500 : Int32))]) (rest := []) (lenOf pd__I_Z rfl) rfl (by show 2 * 0 + _ ≤ _; exact Nat.le_of_eq rfl) (hb hby at_87) (fun _ _ => ⟨rfl, hp105, (by decide : 1 + 0 ≤ _), (by decide : 8 + 0 ≤ _)⟩)
    dsimp only [Pt.U, Pt.locs, Pt.cells, Pt.slots] at X106 l106 y106 z106 st106 hQ106
    subst l106 y106 z106
    obtain ⟨rfl, N106q, hp106⟩ := hQ106
    have N106 := Fr.app N105 N106q
    have k107 : ∀ t, own_At p e below m T106 98 #[.val (.int p0), .val (.int p1), .val (.ref b1), .val (.ref a_INTERNAL_ERROR), .val (.int (500 : Int32))] [(.int (1 : Int32))] t → own_En p e below m s₁ #[(.int p0), (.int p1)] maxLocals t := by
      intro t k
      refine k99 t ?_
      refine X33.aaload hx (j := (7 : Int32)) (v := (.ref a_INTERNAL_ERROR)) (by rw [e33]; exact Ar100.1) (State.isArrayOf_alike hZ.alike Ar100.2.1) rfl Ar100.2.2 hin101 hat102 (g := (mkF m 61 #[.val (.int p0), .val (.int p1), .val (.ref b1), .unset, .unset] [(.int (7 : Int32)), (.ref b1)])) rfl rfl (hb hby at_61) _ ?_
      show own_At p e below m T33 62 #[.val (.int p0), .val (.int p1), .val (.ref b1), .unset, .unset] [(.ref a_INTERNAL_ERROR)] t
      refine XS.astoreN X33.here hx rfl (hb hby at_62) rfl rfl (l' := #[.val (.int p0), .val (.int p1), .val (.ref b1), .val (.ref a_INTERNAL_ERROR), .unset]) rfl ?_
      show own_At p e below m T33 63 #[.val (.int p0), .val (.int p1), .val (.ref b1), .val (.ref a_INTERNAL_ERROR), .unset] [] t
      refine XS.aloadN X33.here hx rfl (hb hby at_63) rfl rfl ?_
      show own_At p e below m T33 64 #[.val (.int p0), .val (.int p1), .val (.ref b1), .val (.ref a_INTERNAL_ERROR), .unset] [(.ref a_INTERNAL_ERROR)] t
      refine st103 _ ?_
      show own_At p e below m T103 67 #[.val (.int p0), .val (.int p1), .val (.ref b1), .val (.ref a_INTERNAL_ERROR), .unset] [(.int (500 : Int32))] t
      refine XS.istore X103.here hx rfl (hb hby at_67) rfl (l' := #[.val (.int p0), .val (.int p1), .val (.ref b1), .val (.ref a_INTERNAL_ERROR), .val (.int (500 : Int32))]) rfl ?_
      show own_At p e below m T103 69 #[.val (.int p0), .val (.int p1), .val (.ref b1), .val (.ref a_INTERNAL_ERROR), .val (.int (500 : Int32))] [] t
      refine XS.iloadN X103.here hx rfl (hb hby at_69) rfl ?_
      show own_At p e below m T103 70 #[.val (.int p0), .val (.int p1), .val (.ref b1), .val (.ref a_INTERNAL_ERROR), .val (.int (500 : Int32))] [(.int p0)] t
      refine st104 _ ?_
      show own_At p e below m T104 73 #[.val (.int p0), .val (.int p1), .val (.ref b1), .val (.ref a_INTERNAL_ERROR), .val (.int (500 : Int32))] [(.int (1 : Int32))] t
      refine XS.ifNo X104.here hx rfl (hb hby at_73) rfl ((if0 _ _).trans (feq (by decide : ¬ ((1 : Int32) = (0 : Int32)))).1) ?_
      show own_At p e below m T104 76 #[.val (.int p0), .val (.int p1), .val (.ref b1), .val (.ref a_INTERNAL_ERROR), .val (.int (500 : Int32))] [] t
      refine XS.iload X104.here hx rfl (hb hby at_76) rfl ?_
      show own_At p e below m T104 78 #[.val (.int p0), .val (.int p1), .val (.ref b1), .val (.ref a_INTERNAL_ERROR), .val (.int (500 : Int32))] [(.int (500 : Int32))] t
      refine st105 _ ?_
      show own_At p e below m T105 81 #[.val (.int p0), .val (.int p1), .val (.ref b1), .val (.ref a_INTERNAL_ERROR), .val (.int (500 : Int32))] [(.ref a_INTERNAL_ERROR)] t
      refine XS.aloadN X105.here hx rfl (hb hby at_81) rfl rfl ?_
      show own_At p e below m T105 82 #[.val (.int p0), .val (.int p1), .val (.ref b1), .val (.ref a_INTERNAL_ERROR), .val (.int (500 : Int32))] [(.ref a_INTERNAL_ERROR), (.ref a_INTERNAL_ERROR)] t
      refine Jvm.RoadKit.acmp (g := (mkF m 82 #[.val (.int p0), .val (.int p1), .val (.ref b1), .val (.ref a_INTERNAL_ERROR), .val (.int (500 : Int32))] [(.ref a_INTERNAL_ERROR), (.ref a_INTERNAL_ERROR)])) X105 hx rfl rfl rfl (pc0 := 82) (pc' := 85) (same := true) rfl (hb hby at_82) rfl (decide_eq_true rfl) (by decide) (by decide) ?_
      show own_At p e below m T105 85 #[.val (.int p0), .val (.int p1), .val (.ref b1), .val (.ref a_INTERNAL_ERROR), .val (.int (500 : Int32))] [] t
      refine XS.iload X105.here hx rfl (hb hby at_85) rfl ?_
      show own_At p e below m T105 87 #[.val (.int p0), .val (.int p1), .val (.ref b1), .val (.ref a_INTERNAL_ERROR), .val (.int (500 : Int32))] [(.int (500 : Int32))] t
      refine st106 _ ?_
      show own_At p e below m T106 90 #[.val (.int p0), .val (.int p1), .val (.ref b1), .val (.ref a_INTERNAL_ERROR), .val (.int (500 : Int32))] [(.int (1 : Int32))] t
      refine XS.ifNo X106.here hx rfl (hb hby at_90) rfl ((if0 _ _).trans (feq (by decide : ¬ ((1 : Int32) = (0 : Int32)))).1) ?_
      show own_At p e below m T106 93 #[.val (.int p0), .val (.int p1), .val (.ref b1), .val (.ref a_INTERNAL_ERROR), .val (.int (500 : Int32))] [] t
      refine XS.iconst X106.here hx rfl (hb hby at_93) ?_
      show own_At p e below m T106 94 #[.val (.int p0), .val (.int p1), .val (.ref b1), .val (.ref a_INTERNAL_ERROR), .val (.int (500 : Int32))] [(.int (1 : Int32))] t
      refine XS.goto X106.here hx rfl (pc0 := 94) (pc' := 98) rfl (hb hby at_94) (by decide) (by decide) ?_
      show own_At p e below m T106 98 #[.val (.int p0), .val (.int p1), .val (.ref b1), .val (.ref a_INTERNAL_ERROR), .val (.int (500 : Int32))] [(.int (1 : Int32))] t
      exact k
    obtain ⟨fs, hr, hrun, hended, hW, hsame⟩ := X106.leave (v := some (.int (1 : Int32))) (fun h => by rw [Bd.returns] at h; cases h)
    refine hNG ⟨_, _, k107 _ ?_, hrun, hended, _, _, rfl, ?_, ⟨_, rfl⟩, hW, hsame.mono (by decide) (by decide)⟩
    · exact retN X106 hx (t := .boolean) Bd.returns (by simp) (hb hby at_98) hr
    · show Q_law Z p0 p1 a_PATH_NOT_FOUND a_METHOD_NOT_ALLOWED a_UNSUPPORTED_MEDIA_TYPE a_EXPECTATION_FAILED a_NOT_IMPLEMENTED a_HTTP_VERSION_NOT_SUPPORTED a_MALFORMED_REQUEST a_INTERNAL_ERROR h0 n0 _ T106.heap _
      rw [hp106]
      exact ⟨rfl, N106⟩
set_option maxRecDepth 65536 in
set_option maxHeartbeats 40000000 in
theorem comes_1 {Post : Tables → Env → Array Value → State → Outcome → State → Prop} (hpost : ∀ tb e args s v u, (limb_1_1.after args s (.returned v) u = true ∧ limb_1_2.after args s (.returned v) u = true ∧ True) → FrameEnd s (.returned v) u (Jvm.fieldLocs frame_1_writes args s ++ Jvm.arrayLocs frame_1_arrays args s ++ Jvm.staticLocs frame_1_statics s) 16 128 → Post tb e args s (.returned v) u) :
    ArmFor flags0 classFile x code maxLocals ret World_1 tables_1 room_1 Calls_1 rest_1 Pre_1 Post := by
  intro l hfl _ _ p e ha hc hk s m args below hf hA hF happ hP
  obtain ⟨hcalls, hrest, hpre⟩ := hP
  obtain ⟨-, -, -, hnamed, -, -, -, hat⟩ := (Spec.applies_iff hf).mp happ
  obtain ⟨hg, hn⟩ := and_e (Cond.before_iff.mp (show (Jvm.Cond.and given_1 narrow_1).before args s = true from hpre))
  obtain ⟨g0a, g0b⟩ := and_e hg
  obtain ⟨g1a, g1b⟩ := and_e g0b
  obtain ⟨w0, w1, rfl⟩ : ∃ w0 w1 : Value, args = #[w0, w1] := by
    have hs : args.size = 2 := by simpa [Cond.value, given_1] using g0a
    obtain ⟨L⟩ := args
    match L, hs with
    | [w0, w1], _ => exact ⟨w0, w1, rfl⟩
  have hw := fun d (hd : d ∈ tables_1) => atoms_spec (ws := Jvm.Cond.code x code maxLocals ret :: tables_1) hat d (List.mem_cons_of_mem _ hd)
  have hfit : Fit s := fun {y c} hc i hi => by
    obtain ⟨ha, rfl⟩ := Array.getElem?_eq_some_iff.mp hc
    have q := List.all_eq_true.mp ((Array.all_eq_true_iff_forall_mem.mp hF) _ (Array.getElem_mem ha)) i (List.mem_range.mpr hi)
    simpa [Array.getElem?_eq_getElem hi] using q
  obtain ⟨i0, ei0⟩ := is_v g1a
  obtain rfl : w0 = (.int i0) := Option.some.inj ei0
  obtain ⟨i1, ei1⟩ := is_v g1b
  obtain rfl : w1 = (.int i1) := Option.some.inj ei1
  obtain ⟨hn1a, hn1b⟩ := and_e hn
  obtain ⟨hn2a, hn2b⟩ := and_e hn1b
  obtain ⟨hn3a, hn3b⟩ := and_e hn2b
  obtain ⟨hn4a, hn4b⟩ := and_e hn3b
  obtain ⟨hn5a, hn5b⟩ := and_e hn4b
  obtain ⟨hn6a, hn6b⟩ := and_e hn5b
  obtain ⟨hn7a, hn7b⟩ := and_e hn6b
  obtain ⟨hn8a, hn8b⟩ := and_e hn7b
  obtain ⟨hn9a, hn9b⟩ := and_e hn8b
  obtain ⟨hn10a, hn10b⟩ := and_e hn9b
  obtain ⟨hn11a, hn11b⟩ := and_e hn10b
  obtain ⟨hn12a, hn12b⟩ := and_e hn11b
  obtain ⟨hn13a, hn13b⟩ := and_e hn12b
  obtain ⟨hn14a, hn14b⟩ := and_e hn13b
  obtain ⟨hn15a, hn15b⟩ := and_e hn14b
  obtain ⟨a_PATH_NOT_FOUND, v_a_PATH_NOT_FOUND⟩ := exa_v hn1a
  have S_PATH_NOT_FOUND := Sta.start v_a_PATH_NOT_FOUND (Or.inr ⟨(own_w hw 3 rfl), (own_w hw 4 rfl)⟩)
  have E_PATH_NOT_FOUND := Exa.start v_a_PATH_NOT_FOUND hn1a
  obtain ⟨a_METHOD_NOT_ALLOWED, v_a_METHOD_NOT_ALLOWED⟩ := exa_v hn2a
  have S_METHOD_NOT_ALLOWED := Sta.start v_a_METHOD_NOT_ALLOWED (Or.inr ⟨(own_w hw 3 rfl), (own_w hw 7 rfl)⟩)
  have E_METHOD_NOT_ALLOWED := Exa.start v_a_METHOD_NOT_ALLOWED hn2a
  obtain ⟨a_UNSUPPORTED_MEDIA_TYPE, v_a_UNSUPPORTED_MEDIA_TYPE⟩ := exa_v hn3a
  have S_UNSUPPORTED_MEDIA_TYPE := Sta.start v_a_UNSUPPORTED_MEDIA_TYPE (Or.inr ⟨(own_w hw 3 rfl), (own_w hw 9 rfl)⟩)
  have E_UNSUPPORTED_MEDIA_TYPE := Exa.start v_a_UNSUPPORTED_MEDIA_TYPE hn3a
  obtain ⟨a_EXPECTATION_FAILED, v_a_EXPECTATION_FAILED⟩ := exa_v hn4a
  have S_EXPECTATION_FAILED := Sta.start v_a_EXPECTATION_FAILED (Or.inr ⟨(own_w hw 3 rfl), (own_w hw 11 rfl)⟩)
  have E_EXPECTATION_FAILED := Exa.start v_a_EXPECTATION_FAILED hn4a
  obtain ⟨a_NOT_IMPLEMENTED, v_a_NOT_IMPLEMENTED⟩ := exa_v hn5a
  have S_NOT_IMPLEMENTED := Sta.start v_a_NOT_IMPLEMENTED (Or.inr ⟨(own_w hw 3 rfl), (own_w hw 13 rfl)⟩)
  have E_NOT_IMPLEMENTED := Exa.start v_a_NOT_IMPLEMENTED hn5a
  obtain ⟨a_HTTP_VERSION_NOT_SUPPORTED, v_a_HTTP_VERSION_NOT_SUPPORTED⟩ := exa_v hn6a
  have S_HTTP_VERSION_NOT_SUPPORTED := Sta.start v_a_HTTP_VERSION_NOT_SUPPORTED (Or.inr ⟨(own_w hw 3 rfl), (own_w hw 15 rfl)⟩)
  have E_HTTP_VERSION_NOT_SUPPORTED := Exa.start v_a_HTTP_VERSION_NOT_SUPPORTED hn6a
  obtain ⟨a_MALFORMED_REQUEST, v_a_MALFORMED_REQUEST⟩ := exa_v hn7a
  have S_MALFORMED_REQUEST := Sta.start v_a_MALFORMED_REQUEST (Or.inr ⟨(own_w hw 3 rfl), (own_w hw 17 rfl)⟩)
  have E_MALFORMED_REQUEST := Exa.start v_a_MALFORMED_REQUEST hn7a
  obtain ⟨a_INTERNAL_ERROR, v_a_INTERNAL_ERROR⟩ := exa_v hn8a
  have S_INTERNAL_ERROR := Sta.start v_a_INTERNAL_ERROR (Or.inr ⟨(own_w hw 3 rfl), (own_w hw 19 rfl)⟩)
  have E_INTERNAL_ERROR := Exa.start v_a_INTERNAL_ERROR hn8a
  have F_EXPECTATION_FAILED_ordinal := Fld.start ((fld_at v_a_EXPECTATION_FAILED).symm.trans (own_eqI hn9a))
  have F_PATH_NOT_FOUND_ordinal := Fld.start ((fld_at v_a_PATH_NOT_FOUND).symm.trans (own_eqI hn10a))
  have F_METHOD_NOT_ALLOWED_ordinal := Fld.start ((fld_at v_a_METHOD_NOT_ALLOWED).symm.trans (own_eqI hn11a))
  have F_UNSUPPORTED_MEDIA_TYPE_ordinal := Fld.start ((fld_at v_a_UNSUPPORTED_MEDIA_TYPE).symm.trans (own_eqI hn12a))
  have F_MALFORMED_REQUEST_ordinal := Fld.start ((fld_at v_a_MALFORMED_REQUEST).symm.trans (own_eqI hn13a))
  have F_NOT_IMPLEMENTED_ordinal := Fld.start ((fld_at v_a_NOT_IMPLEMENTED).symm.trans (own_eqI hn14a))
  have F_HTTP_VERSION_NOT_SUPPORTED_ordinal := Fld.start ((fld_at v_a_HTTP_VERSION_NOT_SUPPORTED).symm.trans (own_eqI hn15a))
  have F_INTERNAL_ERROR_ordinal := Fld.start ((fld_at v_a_INTERNAL_ERROR).symm.trans (own_eqI hn15b))
  obtain ⟨n, o, h1, h2, h3, _, L, rfl, ⟨rfl, N⟩, hq⟩ := rm_law l s _ hw tables_1 i0 i1 a_PATH_NOT_FOUND a_METHOD_NOT_ALLOWED a_UNSUPPORTED_MEDIA_TYPE a_EXPECTATION_FAILED a_NOT_IMPLEMENTED a_HTTP_VERSION_NOT_SUPPORTED a_MALFORMED_REQUEST a_INTERNAL_ERROR s.heap s.heap.size (Old.start s) ⟨S_PATH_NOT_FOUND, E_PATH_NOT_FOUND, S_METHOD_NOT_ALLOWED, E_METHOD_NOT_ALLOWED, S_UNSUPPORTED_MEDIA_TYPE, E_UNSUPPORTED_MEDIA_TYPE, S_EXPECTATION_FAILED, E_EXPECTATION_FAILED, S_NOT_IMPLEMENTED, E_NOT_IMPLEMENTED, S_HTTP_VERSION_NOT_SUPPORTED, E_HTTP_VERSION_NOT_SUPPORTED, S_MALFORMED_REQUEST, E_MALFORMED_REQUEST, S_INTERNAL_ERROR, E_INTERNAL_ERROR, F_EXPECTATION_FAILED_ordinal, F_PATH_NOT_FOUND_ordinal, F_METHOD_NOT_ALLOWED_ordinal, F_UNSUPPORTED_MEDIA_TYPE_ordinal, F_MALFORMED_REQUEST_ordinal, F_NOT_IMPLEMENTED_ordinal, F_HTTP_VERSION_NOT_SUPPORTED_ordinal, F_INTERNAL_ERROR_ordinal⟩  p e ha hc hk s m _ below hf ((Spec.applies_iff_loose hf).mp happ).1 ⟨rfl, State.Warmed39.refl s, rfl⟩ trivial
  refine ⟨n, _, h1, h2, h3, hpost _ _ _ _ _ _ ⟨Cond.after_iff.mpr rfl, Cond.after_iff.mpr (eq_i res_at (Term.int_eval (1)) rfl), trivial⟩ ⟨hq.1, hq.2.1, (hq.2.2.sift fun y hy => Or.inr (N y hy)).mono (by decide) (by decide)⟩⟩
theorem main_1_1 : Claimed_1_1 := comes_1 fun _ _ _ _ _ _ h hF => ⟨h.1, hF⟩
theorem main_1_2 : Claimed_1_2 := comes_1 fun _ _ _ _ _ _ h hF => ⟨h.2.1, hF⟩
end Jvm.Pilot.@@N@@
namespace Jvm.Pilot.@@N@@
open Jvm Jvm.ClassFile Sem Op Lib Jvm.Free Jvm.Stand Jvm.Pilot.@@N@@.Jvm.D
/-! MADE BY PROGRAM (witnessworld.py) out of the Statement's table words and the real class files: 13 classes; the members and pool entries that the words name. The judged class is class 1, her method 3. -/
namespace start1
open Jvm.ClassFile
def u (s : String) : CpInfo := .utf8 (stringToUtf16 s)
/-- a pool by its gaps: so many unusable entries, then the entry; so many at the end -/
def gap : Nat → List CpInfo → List CpInfo
  | 0, r => r
  | n + 1, r => .unusable :: gap n r
def poolList (es : List (Nat × CpInfo)) (last : Nat) : List CpInfo := es.foldr (fun e r => gap e.1 (e.2 :: r)) (gap last [])
def pool (es : List (Nat × CpInfo)) (last : Nat) : Array CpInfo := ⟨poolList es last⟩
def fileOf (pool : Array CpInfo) (this : Nat) (attrs : Array Attribute := #[]) (ms : Array MethodInfo := #[]) (fl : Nat := 33) (sup : Nat := 0) (ifs : Array Nat := #[]) (fds : Array FieldInfo := #[]) : ClassFile where
  minorVersion := 0
  majorVersion := 65
  constantPool := pool
  accessFlags := fl
  thisClass := this
  superClass := sup
  interfaces := ifs
  fields := fds
  methods := ms
  attributes := attrs
def plain (name : String) (sup : Option ClassId) : Class where
  name := name
  kind := .ordinary
  loader := none
  accessFlags := 33
  super := sup
  interfaces := #[]
  cf := none
  fields := #[]
  methods := #[]
  instanceTypes := #[]
  staticTypes := #[]
  resolved := #[]
  callSites := []
  init := .initialized
  statics := none
  mirror := none

def pool0 : Array CpInfo := pool [(5, u "<init>"), (0, u "()V"), (1, .class_ 10), (1, u "java/lang/Object")] 113

def k0m0 : Method := { name := "<init>", desc := "()V", sig := { parameters := [], returnType := none }, accessFlags := 1, code := none }
/-- java/lang/Object -/
def k0 : Class := { plain "java/lang/Object" none with
  accessFlags := 33
  interfaces := #[]
  cf := some (fileOf pool0 8 #[] #[{ accessFlags := 1, nameIndex := 5, descriptorIndex := 6, attributes := #[] }] 33 0 #[] #[])
  fields := #[]
  methods := #[k0m0]
  instanceTypes := #[]
  staticTypes := #[]
  resolved := Array.replicate 124 none
  statics := none }

def pool1 : Array CpInfo := pool [(2, .class_ 4), (1, u "java/lang/Object"), (0, u "<init>"), (0, u "()V"), (0, .fieldref 8 9), (0, .class_ 10), (0, .nameAndType 11 12), (0, u "com/example/kwota/kwota/server/ErrorReason"), (0, u "PATH_NOT_FOUND"), (0, u "Lcom/example/kwota/kwota/server/ErrorReason;"), (0, .fieldref 8 14), (0, .nameAndType 15 12), (0, u "METHOD_NOT_ALLOWED"), (0, .fieldref 8 17), (0, .nameAndType 18 12), (0, u "UNSUPPORTED_MEDIA_TYPE"), (0, .fieldref 8 20), (0, .nameAndType 21 12), (0, u "EXPECTATION_FAILED"), (0, .fieldref 8 23), (0, .nameAndType 24 12), (0, u "NOT_IMPLEMENTED"), (0, .fieldref 8 26), (0, .nameAndType 27 12), (0, u "HTTP_VERSION_NOT_SUPPORTED"), (0, .fieldref 8 29), (0, .nameAndType 30 12), (0, u "MALFORMED_REQUEST"), (0, .fieldref 8 32), (0, .nameAndType 33 12), (0, u "INTERNAL_ERROR"), (0, .methodref 8 35), (0, .nameAndType 36 37), (0, u "ofStatus"), (0, u "(I)Lcom/example/kwota/kwota/server/ErrorReason;"), (0, .methodref 39 40), (0, .class_ 41), (0, .nameAndType 42 43), (0, u "com/example/kwota/kwota/server/ErrorReasonOfStatusPinLaw"), (0, u "statusOf"), (0, u "(Lcom/example/kwota/kwota/server/ErrorReason;)I"), (0, .methodref 39 45), (0, .nameAndType 46 47), (0, u "fits"), (0, u "(I)Z"), (3, u "law"), (0, u "(II)Z")] 4

def k1m0 : Method := { name := "<init>", desc := "()V", sig := { parameters := [], returnType := none }, accessFlags := 1, code := none }
def k1c1 : Code := { maxStack := 2, maxLocals := 1, code := method_2_code, exceptionTable := #[], attributes := #[] }
def k1m1 : Method := { name := "statusOf", desc := "(Lcom/example/kwota/kwota/server/ErrorReason;)I", sig := { parameters := [(.object "com/example/kwota/kwota/server/ErrorReason")], returnType := some .int }, accessFlags := 10, code := some k1c1 }
def k1c2 : Code := { maxStack := 2, maxLocals := 3, code := method_3_code, exceptionTable := #[], attributes := #[] }
def k1m2 : Method := { name := "fits", desc := "(I)Z", sig := { parameters := [.int], returnType := some .boolean }, accessFlags := 10, code := some k1c2 }
def k1c3 : Code := { maxStack := 4, maxLocals := 5, code := code, exceptionTable := #[], attributes := #[] }
def k1m3 : Method := { name := "law", desc := "(II)Z", sig := { parameters := [.int, .int], returnType := some .boolean }, accessFlags := 9, code := some k1c3 }
/-- com/example/kwota/kwota/server/ErrorReasonOfStatusPinLaw -/
def k1 : Class := { plain "com/example/kwota/kwota/server/ErrorReasonOfStatusPinLaw" (some 0) with
  accessFlags := 49
  interfaces := #[]
  cf := some (fileOf pool1 39 #[] #[{ accessFlags := 1, nameIndex := 5, descriptorIndex := 6, attributes := #[] }, { accessFlags := 10, nameIndex := 42, descriptorIndex := 43, attributes := #[] }, { accessFlags := 10, nameIndex := 46, descriptorIndex := 47, attributes := #[] }, { accessFlags := 9, nameIndex := 51, descriptorIndex := 52, attributes := #[] }] 49 2 #[] #[])
  fields := #[]
  methods := #[k1m0, k1m1, k1m2, k1m3]
  instanceTypes := #[]
  staticTypes := #[]
  resolved := Array.replicate 57 none
  statics := none }

def pool2 : Array CpInfo := pool [(1, .class_ 2), (0, u "java/lang/constant/Constable"), (0, .class_ 4), (0, u "java/lang/Object")] 6

/-- java/lang/constant/Constable -/
def k2 : Class := { plain "java/lang/constant/Constable" (some 0) with
  accessFlags := 1537
  interfaces := #[]
  cf := some (fileOf pool2 1 #[] #[] 1537 3 #[] #[])
  fields := #[]
  methods := #[]
  instanceTypes := #[]
  staticTypes := #[]
  resolved := Array.replicate 11 none
  statics := none }

def pool3 : Array CpInfo := pool [(1, .class_ 2), (0, u "java/lang/Comparable"), (0, .class_ 4), (0, u "java/lang/Object")] 7

/-- java/lang/Comparable -/
def k3 : Class := { plain "java/lang/Comparable" (some 0) with
  accessFlags := 1537
  interfaces := #[]
  cf := some (fileOf pool3 1 #[] #[] 1537 3 #[] #[])
  fields := #[]
  methods := #[]
  instanceTypes := #[]
  staticTypes := #[]
  resolved := Array.replicate 12 none
  statics := none }

def pool4 : Array CpInfo := pool [(1, .class_ 2), (0, u "java/io/Serializable"), (0, .class_ 4), (0, u "java/lang/Object")] 2

/-- java/io/Serializable -/
def k4 : Class := { plain "java/io/Serializable" (some 0) with
  accessFlags := 1537
  interfaces := #[]
  cf := some (fileOf pool4 1 #[] #[] 1537 3 #[] #[])
  fields := #[]
  methods := #[]
  instanceTypes := #[]
  staticTypes := #[]
  resolved := Array.replicate 7 none
  statics := none }

def pool5 : Array CpInfo := pool [(2, .class_ 4), (1, u "java/lang/Enum"), (0, u "name"), (0, u "Ljava/lang/String;"), (2, u "ordinal"), (0, u "I"), (1, .class_ 14), (1, u "java/lang/Object"), (4, u "hash"), (86, .class_ 108), (1, u "java/lang/Enum$EnumDesc"), (2, .class_ 112), (0, u "java/lang/constant/Constable"), (0, .class_ 114), (0, u "java/lang/Comparable"), (0, .class_ 116), (0, u "java/io/Serializable")] 87

/-- java/lang/Enum -/
def k5 : Class := { plain "java/lang/Enum" (some 0) with
  accessFlags := 1057
  interfaces := #[2, 3, 4]
  cf := some (fileOf pool5 2 #[.nestMembers #[106]] #[] 1057 12 #[111, 113, 115] #[{ accessFlags := 18, nameIndex := 5, descriptorIndex := 6, attributes := #[] }, { accessFlags := 18, nameIndex := 9, descriptorIndex := 10, attributes := #[] }, { accessFlags := 2, nameIndex := 19, descriptorIndex := 10, attributes := #[] }])
  fields := #[{ name := "name", type := (.object "java/lang/String"), accessFlags := 18, slot := 0, constantValue := 0 }, { name := "ordinal", type := .int, accessFlags := 18, slot := 1, constantValue := 0 }, { name := "hash", type := .int, accessFlags := 2, slot := 2, constantValue := 0 }]
  methods := #[]
  instanceTypes := #[(.object "java/lang/String"), .int, .int]
  staticTypes := #[]
  resolved := Array.replicate 204 none
  statics := none }

def pool6 : Array CpInfo := pool [(1, .class_ 2), (0, u "com/example/kwota/kwota/server/ErrorReason"), (2, u "RATE_LIMIT_EXCEEDED"), (0, u "Lcom/example/kwota/kwota/server/ErrorReason;"), (2, u "ALLOCATION_EXCEEDED"), (2, u "COUNT_LIMIT_EXCEEDED"), (2, u "SHARED_CAPACITY_EXCEEDED"), (2, u "MALFORMED_BODY"), (2, u "INVALID_FIELD"), (0, .fieldref 1 23), (0, .nameAndType 24 6), (0, u "MALFORMED_REQUEST"), (2, u "SYSTEM_LIMIT_EXCEEDED"), (2, u "ADJUSTMENT_NOT_PENDING"), (2, u "NOT_ALLOCATED"), (2, u "RELEASE_EXCEEDS_HELD"), (2, u "QUOTA_NOT_FOUND"), (2, u "OVERRIDE_NOT_FOUND"), (2, u "ADJUSTMENT_NOT_FOUND"), (0, .fieldref 1 47), (0, .nameAndType 48 6), (0, u "PATH_NOT_FOUND"), (2, u "KEY_MISSING"), (2, u "KEY_NOT_LISTED"), (2, u "ROLE_MISSING"), (2, u "ASKER_MAY_NOT_DECIDE"), (0, .fieldref 1 62), (0, .nameAndType 63 6), (0, u "METHOD_NOT_ALLOWED"), (0, .fieldref 1 65), (0, .nameAndType 66 6), (0, u "UNSUPPORTED_MEDIA_TYPE"), (0, .fieldref 1 68), (0, .nameAndType 69 6), (0, u "EXPECTATION_FAILED"), (2, u "STORE_WRITE_FAILED"), (0, .fieldref 1 74), (0, .nameAndType 75 6), (0, u "INTERNAL_ERROR"), (0, .fieldref 1 77), (0, .nameAndType 78 6), (0, u "NOT_IMPLEMENTED"), (2, u "READ_LIMIT_EXCEEDED"), (0, .fieldref 1 83), (0, .nameAndType 84 6), (0, u "HTTP_VERSION_NOT_SUPPORTED"), (2, u "$VALUES"), (0, u "[Lcom/example/kwota/kwota/server/ErrorReason;"), (6, .class_ 97), (1, u "java/lang/Enum"), (45, u "ofStatus"), (0, u "(I)Lcom/example/kwota/kwota/server/ErrorReason;")] 5

def k6c0 : Code := { maxStack := 2, maxLocals := 1, code := prog_59_method_4_code, exceptionTable := #[], attributes := #[] }
def k6m0 : Method := { name := "ofStatus", desc := "(I)Lcom/example/kwota/kwota/server/ErrorReason;", sig := { parameters := [.int], returnType := some (.object "com/example/kwota/kwota/server/ErrorReason") }, accessFlags := 8, code := some k6c0 }
/-- com/example/kwota/kwota/server/ErrorReason -/
def k6 : Class := { plain "com/example/kwota/kwota/server/ErrorReason" (some 5) with
  accessFlags := 16432
  interfaces := #[]
  cf := some (fileOf pool6 1 #[] #[{ accessFlags := 8, nameIndex := 143, descriptorIndex := 144, attributes := #[] }] 16432 95 #[] #[{ accessFlags := 16409, nameIndex := 5, descriptorIndex := 6, attributes := #[] }, { accessFlags := 16409, nameIndex := 9, descriptorIndex := 6, attributes := #[] }, { accessFlags := 16409, nameIndex := 12, descriptorIndex := 6, attributes := #[] }, { accessFlags := 16409, nameIndex := 15, descriptorIndex := 6, attributes := #[] }, { accessFlags := 16409, nameIndex := 18, descriptorIndex := 6, attributes := #[] }, { accessFlags := 16409, nameIndex := 21, descriptorIndex := 6, attributes := #[] }, { accessFlags := 16409, nameIndex := 24, descriptorIndex := 6, attributes := #[] }, { accessFlags := 16409, nameIndex := 27, descriptorIndex := 6, attributes := #[] }, { accessFlags := 16409, nameIndex := 30, descriptorIndex := 6, attributes := #[] }, { accessFlags := 16409, nameIndex := 33, descriptorIndex := 6, attributes := #[] }, { accessFlags := 16409, nameIndex := 36, descriptorIndex := 6, attributes := #[] }, { accessFlags := 16409, nameIndex := 39, descriptorIndex := 6, attributes := #[] }, { accessFlags := 16409, nameIndex := 42, descriptorIndex := 6, attributes := #[] }, { accessFlags := 16409, nameIndex := 45, descriptorIndex := 6, attributes := #[] }, { accessFlags := 16409, nameIndex := 48, descriptorIndex := 6, attributes := #[] }, { accessFlags := 16409, nameIndex := 51, descriptorIndex := 6, attributes := #[] }, { accessFlags := 16409, nameIndex := 54, descriptorIndex := 6, attributes := #[] }, { accessFlags := 16409, nameIndex := 57, descriptorIndex := 6, attributes := #[] }, { accessFlags := 16409, nameIndex := 60, descriptorIndex := 6, attributes := #[] }, { accessFlags := 16409, nameIndex := 63, descriptorIndex := 6, attributes := #[] }, { accessFlags := 16409, nameIndex := 66, descriptorIndex := 6, attributes := #[] }, { accessFlags := 16409, nameIndex := 69, descriptorIndex := 6, attributes := #[] }, { accessFlags := 16409, nameIndex := 72, descriptorIndex := 6, attributes := #[] }, { accessFlags := 16409, nameIndex := 75, descriptorIndex := 6, attributes := #[] }, { accessFlags := 16409, nameIndex := 78, descriptorIndex := 6, attributes := #[] }, { accessFlags := 16409, nameIndex := 81, descriptorIndex := 6, attributes := #[] }, { accessFlags := 16409, nameIndex := 84, descriptorIndex := 6, attributes := #[] }, { accessFlags := 4122, nameIndex := 87, descriptorIndex := 88, attributes := #[] }])
  fields := #[{ name := "RATE_LIMIT_EXCEEDED", type := (.object "com/example/kwota/kwota/server/ErrorReason"), accessFlags := 16409, slot := 0, constantValue := 0 }, { name := "ALLOCATION_EXCEEDED", type := (.object "com/example/kwota/kwota/server/ErrorReason"), accessFlags := 16409, slot := 1, constantValue := 0 }, { name := "COUNT_LIMIT_EXCEEDED", type := (.object "com/example/kwota/kwota/server/ErrorReason"), accessFlags := 16409, slot := 2, constantValue := 0 }, { name := "SHARED_CAPACITY_EXCEEDED", type := (.object "com/example/kwota/kwota/server/ErrorReason"), accessFlags := 16409, slot := 3, constantValue := 0 }, { name := "MALFORMED_BODY", type := (.object "com/example/kwota/kwota/server/ErrorReason"), accessFlags := 16409, slot := 4, constantValue := 0 }, { name := "INVALID_FIELD", type := (.object "com/example/kwota/kwota/server/ErrorReason"), accessFlags := 16409, slot := 5, constantValue := 0 }, { name := "MALFORMED_REQUEST", type := (.object "com/example/kwota/kwota/server/ErrorReason"), accessFlags := 16409, slot := 6, constantValue := 0 }, { name := "SYSTEM_LIMIT_EXCEEDED", type := (.object "com/example/kwota/kwota/server/ErrorReason"), accessFlags := 16409, slot := 7, constantValue := 0 }, { name := "ADJUSTMENT_NOT_PENDING", type := (.object "com/example/kwota/kwota/server/ErrorReason"), accessFlags := 16409, slot := 8, constantValue := 0 }, { name := "NOT_ALLOCATED", type := (.object "com/example/kwota/kwota/server/ErrorReason"), accessFlags := 16409, slot := 9, constantValue := 0 }, { name := "RELEASE_EXCEEDS_HELD", type := (.object "com/example/kwota/kwota/server/ErrorReason"), accessFlags := 16409, slot := 10, constantValue := 0 }, { name := "QUOTA_NOT_FOUND", type := (.object "com/example/kwota/kwota/server/ErrorReason"), accessFlags := 16409, slot := 11, constantValue := 0 }, { name := "OVERRIDE_NOT_FOUND", type := (.object "com/example/kwota/kwota/server/ErrorReason"), accessFlags := 16409, slot := 12, constantValue := 0 }, { name := "ADJUSTMENT_NOT_FOUND", type := (.object "com/example/kwota/kwota/server/ErrorReason"), accessFlags := 16409, slot := 13, constantValue := 0 }, { name := "PATH_NOT_FOUND", type := (.object "com/example/kwota/kwota/server/ErrorReason"), accessFlags := 16409, slot := 14, constantValue := 0 }, { name := "KEY_MISSING", type := (.object "com/example/kwota/kwota/server/ErrorReason"), accessFlags := 16409, slot := 15, constantValue := 0 }, { name := "KEY_NOT_LISTED", type := (.object "com/example/kwota/kwota/server/ErrorReason"), accessFlags := 16409, slot := 16, constantValue := 0 }, { name := "ROLE_MISSING", type := (.object "com/example/kwota/kwota/server/ErrorReason"), accessFlags := 16409, slot := 17, constantValue := 0 }, { name := "ASKER_MAY_NOT_DECIDE", type := (.object "com/example/kwota/kwota/server/ErrorReason"), accessFlags := 16409, slot := 18, constantValue := 0 }, { name := "METHOD_NOT_ALLOWED", type := (.object "com/example/kwota/kwota/server/ErrorReason"), accessFlags := 16409, slot := 19, constantValue := 0 }, { name := "UNSUPPORTED_MEDIA_TYPE", type := (.object "com/example/kwota/kwota/server/ErrorReason"), accessFlags := 16409, slot := 20, constantValue := 0 }, { name := "EXPECTATION_FAILED", type := (.object "com/example/kwota/kwota/server/ErrorReason"), accessFlags := 16409, slot := 21, constantValue := 0 }, { name := "STORE_WRITE_FAILED", type := (.object "com/example/kwota/kwota/server/ErrorReason"), accessFlags := 16409, slot := 22, constantValue := 0 }, { name := "INTERNAL_ERROR", type := (.object "com/example/kwota/kwota/server/ErrorReason"), accessFlags := 16409, slot := 23, constantValue := 0 }, { name := "NOT_IMPLEMENTED", type := (.object "com/example/kwota/kwota/server/ErrorReason"), accessFlags := 16409, slot := 24, constantValue := 0 }, { name := "READ_LIMIT_EXCEEDED", type := (.object "com/example/kwota/kwota/server/ErrorReason"), accessFlags := 16409, slot := 25, constantValue := 0 }, { name := "HTTP_VERSION_NOT_SUPPORTED", type := (.object "com/example/kwota/kwota/server/ErrorReason"), accessFlags := 16409, slot := 26, constantValue := 0 }, { name := "$VALUES", type := (.array (.object "com/example/kwota/kwota/server/ErrorReason")), accessFlags := 4122, slot := 27, constantValue := 0 }]
  methods := #[k6m0]
  instanceTypes := #[(.object "java/lang/String"), .int, .int]
  staticTypes := #[(.object "com/example/kwota/kwota/server/ErrorReason"), (.object "com/example/kwota/kwota/server/ErrorReason"), (.object "com/example/kwota/kwota/server/ErrorReason"), (.object "com/example/kwota/kwota/server/ErrorReason"), (.object "com/example/kwota/kwota/server/ErrorReason"), (.object "com/example/kwota/kwota/server/ErrorReason"), (.object "com/example/kwota/kwota/server/ErrorReason"), (.object "com/example/kwota/kwota/server/ErrorReason"), (.object "com/example/kwota/kwota/server/ErrorReason"), (.object "com/example/kwota/kwota/server/ErrorReason"), (.object "com/example/kwota/kwota/server/ErrorReason"), (.object "com/example/kwota/kwota/server/ErrorReason"), (.object "com/example/kwota/kwota/server/ErrorReason"), (.object "com/example/kwota/kwota/server/ErrorReason"), (.object "com/example/kwota/kwota/server/ErrorReason"), (.object "com/example/kwota/kwota/server/ErrorReason"), (.object "com/example/kwota/kwota/server/ErrorReason"), (.object "com/example/kwota/kwota/server/ErrorReason"), (.object "com/example/kwota/kwota/server/ErrorReason"), (.object "com/example/kwota/kwota/server/ErrorReason"), (.object "com/example/kwota/kwota/server/ErrorReason"), (.object "com/example/kwota/kwota/server/ErrorReason"), (.object "com/example/kwota/kwota/server/ErrorReason"), (.object "com/example/kwota/kwota/server/ErrorReason"), (.object "com/example/kwota/kwota/server/ErrorReason"), (.object "com/example/kwota/kwota/server/ErrorReason"), (.object "com/example/kwota/kwota/server/ErrorReason"), (.array (.object "com/example/kwota/kwota/server/ErrorReason"))]
  resolved := Array.replicate 150 none
  statics := some 0 }

def pool7 : Array CpInfo := pool [(1, u "java/lang/Cloneable"), (0, .class_ 1), (0, u "java/lang/Object"), (0, .class_ 3)] 3

/-- java/lang/Cloneable -/
def k7 : Class := { plain "java/lang/Cloneable" (some 0) with
  accessFlags := 1537
  interfaces := #[]
  cf := some (fileOf pool7 2 #[] #[] 1537 4 #[] #[])
  fields := #[]
  methods := #[]
  instanceTypes := #[]
  staticTypes := #[]
  resolved := Array.replicate 8 none
  statics := none }

/-- the primitive byte -/
def k8 : Class := { plain "byte" none with kind := .primitive 'B', accessFlags := 0x411 }
/-- [B -/
def k9 : Class := { plain "[B" (some 0) with kind := .array 8 .byte, interfaces := #[7, 4], accessFlags := 1041 }

/-- the primitive int -/
def k10 : Class := { plain "int" none with kind := .primitive 'I', accessFlags := 0x411 }
/-- [I -/
def k11 : Class := { plain "[I" (some 0) with kind := .array 10 .int, interfaces := #[7, 4], accessFlags := 1041 }

/-- [Lcom/example/kwota/kwota/server/ErrorReason; -/
def k12 : Class := { plain "[Lcom/example/kwota/kwota/server/ErrorReason;" (some 0) with kind := .array 6 (.object "com/example/kwota/kwota/server/ErrorReason"), interfaces := #[7, 4], accessFlags := 1041 }

def heap : Heap := #[{ cls := 6, slots := #[.null, .null, .null, .null, .null, .null, .ref 7, .null, .null, .null, .null, .null, .null, .null, .ref 1, .null, .null, .null, .null, .ref 2, .ref 3, .ref 4, .null, .ref 8, .ref 5, .null, .ref 6, .null], vm := .statics 6 },
  { cls := 6, slots := #[.null, .int 14, .int 0], vm := .none },
  { cls := 6, slots := #[.null, .int 19, .int 0], vm := .none },
  { cls := 6, slots := #[.null, .int 20, .int 0], vm := .none },
  { cls := 6, slots := #[.null, .int 21, .int 0], vm := .none },
  { cls := 6, slots := #[.null, .int 24, .int 0], vm := .none },
  { cls := 6, slots := #[.null, .int 26, .int 0], vm := .none },
  { cls := 6, slots := #[.null, .int 6, .int 0], vm := .none },
  { cls := 6, slots := #[.null, .int 23, .int 0], vm := .none }]
def classes : Array Class := #[k0, k1, k2, k3, k4, k5, k6, k7, k8, k9, k10, k11, k12]
def interned : List (Array UInt16 × Addr) := []
def slotsUsed : Nat := 52
def theMethod : MethodId := ⟨1, 3⟩
def args0 : Array Value := #[.int 5, .int 3]
def aboutOver (below : List Frame) : State where
  vm := { classes := classes, interned := interned.toArray }
  heap := heap
  slotsUsed := slotsUsed
  threads := #[{ frames := .invoking theMethod args0 :: below }]
def below0 : List Frame := [.native { method := ⟨0, 0⟩, args := #[] }]
def about1 : State := aboutOver below0
def p0 : Program := .bare "" "" ""
def e0 : Env := launch0.env 0 0 0
theorem w_frames : about1.frames = Frame.invoking theMethod args0 :: below0 := rfl
set_option maxRecDepth 65536 in
theorem w_args : argsFit about1.vm theMethod args0 = true := by decide +kernel
set_option maxRecDepth 65536 in
theorem w_heap : heapFits about1 = true := by decide +kernel
set_option maxRecDepth 65536 in
theorem w_runnable : about1.curStatus? = some .runnable := by decide +kernel
set_option maxRecDepth 65536 in
theorem w_alone : about1.alone = true := by decide +kernel
set_option maxRecDepth 65536 in
theorem w_named : about1.methodNamed? x = some theMethod := by decide +kernel
set_option maxRecDepth 65536 in
theorem w_hears : about1.hears theMethod below0 = true := by decide +kernel
set_option maxRecDepth 65536 in
theorem w_ripe : about1.ripe theMethod args0 below0 = true := by decide +kernel
theorem w_running : about1.status = .running := rfl
set_option maxRecDepth 65536 in
theorem w_room : about1.hasRoom e0.platform room_1 = true :=
  launch0.hasRoom_least _ room_1 (by decide +kernel) (by decide +kernel) (by decide +kernel) (by decide +kernel) (by decide +kernel) (by decide +kernel)
theorem allAtoms_all (ts : List Jvm.Cond) (a : Array Jvm.Value) (st : Jvm.State) : (allAtoms ts).before a st = ts.all (fun c => c.before a st) := by
  induction ts with
  | nil => rfl
  | cons c t ih =>
    show (Jvm.Cond.and c (allAtoms t)).before a st = _
    rw [Jvm.Cond.before_and, ih, List.all_cons]
def words1 : List Jvm.Cond := Jvm.Cond.code x code maxLocals ret :: tables_1
/-- a 'code' word, met by the world's own term for the bytes: nothing is compared byte by byte -/
theorem code_word {y : MethodName} {bytes : ByteArray} {mx : Nat} {rt : Option FieldType} {a : Array Value} {s : State} {m : MethodId} {meth : Method} {c : Code} (h1 : s.methodNamed? y = some m) (h2 : s.vm.method? m = some meth) (h3 : meth.code = some c) (h4 : c.code = bytes)
    (h5 : (c.maxLocals == mx && c.exceptionTable.isEmpty && decide (c.maxStack ≤ mostOperands) && decide (meth.sig.returnType = rt) && !meth.locks && decide (parseMethodDescriptor y.desc = some meth.sig)) = true) : (Jvm.Cond.code y bytes mx rt).before a s = true := by
  simp only [Bool.and_eq_true, beq_iff_eq, Bool.not_eq_true', decide_eq_true_eq] at h5
  obtain ⟨⟨⟨⟨⟨g1, g2⟩, g3⟩, g4⟩, g5⟩, g6⟩ := h5
  simp [Cond.before, Cond.holds, Cond.value, h1, h2, h3, h4, g1, g2, g3, g4, g5, g6]
def isCode : Jvm.Cond → Bool
  | .code _ _ _ _ => true
  | _ => false
theorem all_split {L : List Jvm.Cond} {P : Jvm.Cond → Bool} (h1 : L.all (fun c => isCode c || P c) = true) (h2 : ∀ c ∈ L.filter isCode, P c = true) : L.all P = true := by
  refine List.all_eq_true.mpr fun c hc => ?_
  have h := List.all_eq_true.mp h1 c hc
  rcases Bool.eq_false_or_eq_true (isCode c) with hi | hi
  · exact h2 c (List.mem_filter.mpr ⟨hc, hi⟩)
  · simpa [hi] using h
set_option maxRecDepth 65536 in
theorem w_c0 : (Jvm.Cond.code x code maxLocals ret).before args0 about1 = true := code_word (m := ⟨1, 3⟩) (meth := k1m3) (c := k1c3) (by decide +kernel) rfl rfl rfl (by decide +kernel)
set_option maxRecDepth 65536 in
theorem w_c1 : (Jvm.Cond.code ({ cls := "com/example/kwota/kwota/server/ErrorReasonOfStatusPinLaw", name := "statusOf", desc := "(Lcom/example/kwota/kwota/server/ErrorReason;)I" } : Jvm.MethodName) method_2_code (1 : Nat) (Option.some Jvm.ClassFile.FieldType.int)).before args0 about1 = true := code_word (m := ⟨1, 1⟩) (meth := k1m1) (c := k1c1) (by decide +kernel) rfl rfl rfl (by decide +kernel)
set_option maxRecDepth 65536 in
theorem w_c2 : (Jvm.Cond.code ({ cls := "com/example/kwota/kwota/server/ErrorReasonOfStatusPinLaw", name := "fits", desc := "(I)Z" } : Jvm.MethodName) method_3_code (3 : Nat) (Option.some Jvm.ClassFile.FieldType.boolean)).before args0 about1 = true := code_word (m := ⟨1, 2⟩) (meth := k1m2) (c := k1c2) (by decide +kernel) rfl rfl rfl (by decide +kernel)
set_option maxRecDepth 65536 in
theorem w_c3 : (Jvm.Cond.code ({ cls := "com/example/kwota/kwota/server/ErrorReason", name := "ofStatus", desc := "(I)Lcom/example/kwota/kwota/server/ErrorReason;" } : Jvm.MethodName) prog_59_method_4_code (1 : Nat) (Option.some (Jvm.ClassFile.FieldType.object "com/example/kwota/kwota/server/ErrorReason"))).before args0 about1 = true := code_word (m := ⟨6, 0⟩) (meth := k6m0) (c := k6c0) (by decide +kernel) rfl rfl rfl (by decide +kernel)
def codes1 : List Jvm.Cond := [Jvm.Cond.code x code maxLocals ret, Jvm.Cond.code ({ cls := "com/example/kwota/kwota/server/ErrorReasonOfStatusPinLaw", name := "statusOf", desc := "(Lcom/example/kwota/kwota/server/ErrorReason;)I" } : Jvm.MethodName) method_2_code (1 : Nat) (Option.some Jvm.ClassFile.FieldType.int), Jvm.Cond.code ({ cls := "com/example/kwota/kwota/server/ErrorReasonOfStatusPinLaw", name := "fits", desc := "(I)Z" } : Jvm.MethodName) method_3_code (3 : Nat) (Option.some Jvm.ClassFile.FieldType.boolean), Jvm.Cond.code ({ cls := "com/example/kwota/kwota/server/ErrorReason", name := "ofStatus", desc := "(I)Lcom/example/kwota/kwota/server/ErrorReason;" } : Jvm.MethodName) prog_59_method_4_code (1 : Nat) (Option.some (Jvm.ClassFile.FieldType.object "com/example/kwota/kwota/server/ErrorReason"))]
set_option maxRecDepth 65536 in
theorem codes_eq : words1.filter isCode = codes1 := rfl
theorem w_codes : ∀ c ∈ words1.filter isCode, c.before args0 about1 = true := by
  rw [codes_eq]
  intro c hc
  simp only [codes1, List.mem_cons, List.not_mem_nil, or_false] at hc
  rcases hc with rfl | rfl | rfl | rfl
  · exact w_c0
  · exact w_c1
  · exact w_c2
  · exact w_c3
set_option maxRecDepth 65536 in
theorem w_t1 : (words1.take 24).all (fun c => isCode c || c.before args0 about1) = true := by decide +kernel
set_option maxRecDepth 65536 in
theorem w_t2 : (words1.drop 24).all (fun c => isCode c || c.before args0 about1) = true := by decide +kernel
theorem w_tables : (allAtoms (Jvm.Cond.code x code maxLocals ret :: tables_1)).before args0 about1 = true := by
  rw [allAtoms_all]
  show words1.all (fun c => c.before args0 about1) = true
  refine all_split ?_ w_codes
  rw [← List.take_append_drop 24 words1, List.all_append, w_t1, w_t2]
  rfl
set_option maxRecDepth 65536 in
theorem w_case : (Jvm.Cond.and given_1 narrow_1).before args0 about1 = true := by decide +kernel
theorem w_applies : (headSpec (Jvm.Cond.code x code maxLocals ret :: tables_1) room_1).applies x e0.platform about1 = true :=
  (Spec.applies_iff w_frames).mpr ⟨w_running, w_runnable, w_alone, w_named, w_hears, w_ripe, w_room, w_tables⟩
theorem atStart : AtStart classFile x code maxLocals ret World_1 tables_1 room_1 Calls_1 rest_1 Pre_1 launch0 p0 e0 about1 theMethod args0 below0 :=
  ⟨lists_1, trivial, launch0.admits_env _ _ _, launch0.least_env, fairChoices_fair.cas, fairChoices_fair.clock, w_frames, w_args, w_heap, w_applies, trivial, trivial, w_case⟩
end start1
theorem witness_1 : WitnessClaimed_1 := ⟨start1.p0, start1.e0, start1.about1, start1.theMethod, start1.args0, start1.below0, start1.atStart⟩
end Jvm.Pilot.@@N@@
