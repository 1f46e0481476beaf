import JvmDerived
import JvmDerived.Pilot.@@N@@Statement
import JvmDerived.Pilot.@@N@@Code
set_option linter.unusedVariables false
set_option linter.unusedSimpArgs false
namespace Jvm.Pilot.@@N@@
open Jvm Jvm.ClassFile Sem Op Lib Jvm.Free Jvm.Stand Jvm.LawKit Jvm.RoadKit Bundle Jvm.Pilot.@@N@@.Jvm.D
abbrev Ga (p : Program) (e : Env) (below : List Frame) (m : MethodId) (T : State) (pc : Nat) (ls : Array Slot) (st : List Value) (t : State) : Prop := Steps p.tables e below (T.setTop (mkF m pc ls st)) t
abbrev Ra (p : Program) (e : Env) (below : List Frame) (m : MethodId) (T : State) (a : Array Value) (n : Nat) (t : State) : Prop := Steps p.tables e below (T.setTop (entryFrame m a n)) t
theorem Da {a0 : Array Value} {Z : State} (hw : ∀ d ∈ tables_1, d.before a0 Z = true) (i : Nat) {d : Jvm.Cond} (h : tables_1[i]? = some d) : d.before a0 Z = true := hw d (List.mem_of_getElem? h)
theorem Ip {t : Term} {k : Int32} {args : Array Value} {s : State} (h : (Jvm.Cond.eq t (.int k)).value args s none s [] = some true) : t.eval args s none [] s = some (.int k) := by
  have e : (Term.int k).eval args s none [] s = some (.int k) := rfl
  simp only [Cond.value, e] at h
  cases ht : t.eval args s none [] s with
  | none => simp [ht] at h
  | some x => cases x <;> simp [ht] at h ⊢; exact h
theorem Kz {t : Term} {k z : Int32} {args : Array Value} {s : State} (e : t.eval args s none [] s = some (.int z)) (h : (Jvm.Cond.not (Jvm.Cond.eq t (.int k))).value args s none s [] = some true) : ¬ (z = k) := by
  have q := not_v h
  have e2 : (Term.int k).eval args s none [] s = some (.int k) := rfl
  simp only [Cond.value, e, e2, Bool.not_true, Option.some.injEq, decide_eq_false_iff_not] at q
  exact q
theorem own_neR {t u : Term} {a b : Addr} {args : Array Value} {s : State} (ea : t.eval args s none [] s = some (.ref a)) (eb : u.eval args s none [] s = some (.ref b)) (h : (Jvm.Cond.not (Jvm.Cond.eq t u)).value args s none s [] = some true) : ¬ (a = b) := by
  have q := not_v h
  rw [eq_R ea eb rfl rfl] at q
  intro e
  rw [e] at q
  simp at q
theorem own_eqJ {t : Term} {k : Int64} {args : Array Value} {s : State} (h : (Jvm.Cond.eq t (.long k)).value args s none s [] = some true) : t.eval args s none [] s = some (.long k) := by
  have e : (Term.long k).eval args s none [] s = some (.long k) := rfl
  simp only [Cond.value, e] at h
  cases ht : t.eval args s none [] s with
  | none => simp [ht] at h
  | some x => cases x <;> simp [ht] at h ⊢; exact h
theorem own_len {t : Term} {n : Int32} {a : Addr} {cl : Cell} {ty : FieldType} {args : Array Value} {s : State} (ev : t.eval args s none [] s = some (.ref a)) (A : Arr s s.heap a cl ty) (h : (Jvm.Cond.eq (.length t) (.int n)).value args s none s [] = some true) : cl.slots.size < 2 ^ 31 ∧ cl.slots.size.toInt32 = n := by
  have q := Ip h
  have hA := A.fin (Vm.Alike.refl _)
  simp only [Term.eval, ev, hA, Option.bind_eq_bind, Option.bind_some] at q
  split at q
  · rename_i hl
    exact ⟨hl, Value.int.inj (Option.some.inj q)⟩
  · cases q
theorem own_elem {t : Term} {j : Int32} {a : Addr} {v : Value} {cl : Cell} {ty : FieldType} {args : Array Value} {s : State} (ev : t.eval args s none [] s = some (.ref a)) (A : Arr s s.heap a cl ty) (h : (Term.elem t (.int j)).eval args s none [] s = some v) (i : Nat) (hi : j.toNatClampNeg = i) : cl.slots[i]? = some v := by
  have q := (elem_in h ev (rfl : (Term.int j).eval args s none [] s = some (.int j)) A.1).2
  rw [hi] at q; exact q
/-- an array as it stood at the start, that may be cloned -/
def Hn (Z : State) (h : Heap) (a : Addr) (ty : FieldType) (n : Int32) (vs : List Value) (d : Value) : Prop := ∃ c : Cell, Arr Z h a c ty ∧ FitC Z c ∧ c.slots.size = n.toNatClampNeg ∧ ¬ n < 0 ∧ Has c vs d ∧ ∀ i, i < c.slots.size → fits ty (vs.getD i d) = true
theorem Hn.ext {Z : State} {h h' : Heap} {a : Addr} {ty : FieldType} {n : Int32} {vs : List Value} {d : Value} (F : Hn Z h a ty n vs d) (E : Ext h h') : Hn Z h' a ty n vs d := by
  obtain ⟨c, A, r⟩ := F; exact ⟨c, A.ext E, r⟩
theorem Hn.start {Z : State} {a : Addr} {cl : Cell} {ty : FieldType} {z : Int32} {vs : List Value} {dv : Value} (hf : Fit Z) (A : Arr Z Z.heap a cl ty) (q : cl.slots.size < 2 ^ 31 ∧ cl.slots.size.toInt32 = z) (hz : ¬ z < 0) (hl : z.toNatClampNeg = vs.length) (H : HasL cl 0 vs) : Hn Z Z.heap a ty z vs dv := by
  have S : cl.slots.size = z.toNatClampNeg := by rw [← q.2]; simp only [Int32.toNatClampNeg, len_toInt q.1]; rfl
  have H' : Has cl vs dv := fun j hj => by have := HasL.at (dv := dv) vs 0 H j (by rw [← hl, ← S]; exact hj); rwa [Nat.zero_add] at this
  refine ⟨cl, A, FitC.start hf A, S, hz, H', fun j hj => ?_⟩
  have e1 : (Nat.toInt32 j).toNatClampNeg = j := by simp only [Int32.toNatClampNeg, len_toInt (Nat.lt_trans hj q.1)]; rfl
  exact elem_fits (j := Nat.toInt32 j) hf A (idx_in hj q.1) (by rw [e1]; exact H' j hj)
theorem Hn.arv {Z : State} {h : Heap} {a : Addr} {ty : FieldType} {n : Int32} {vs : List Value} {d : Value} (F : Hn Z h a ty n vs d) : ∃ k, Arv Z h a k ty n vs d := by
  obtain ⟨c, A, -, r⟩ := F; exact ⟨c.cls, c, A, rfl, r⟩
theorem own_eqR {t u : Term} {b : Addr} {args : Array Value} {s : State} (h : (Jvm.Cond.eq t u).value args s none s [] = some true) (e : u.eval args s none [] s = some (.ref b)) : t.eval args s none [] s = some (.ref b) := by
  simp only [Cond.value, e] at h
  cases ht : t.eval args s none [] s with
  | none => simp [ht] at h
  | some x => cases x <;> simp [ht] at h ⊢; exact h
theorem Wi (x : Int32) : nar .char (x.toUInt32.toUInt16.toUInt32.toInt32) = x.toUInt32.toUInt16.toUInt32.toInt32 := by
  show (x.toUInt32.toUInt16.toUInt32.toInt32).toUInt32.toUInt16.toUInt32.toInt32 = _
  have a := c_i2c x
  have b := c_i2c x.toUInt32.toUInt16.toUInt32.toInt32
  apply Int32.toInt_inj.mp
  omega
theorem own_dup2L {tb : Tables} [Ours tb] {e : Env} {below : List Frame} {T target : State} {m : MethodId} {c : Code} {g : JFrame} (h : At T m c below) (hx : tb.exec = Jvm.exec) (hg : g.method = m) {x : Int64} {rest : List Value} (hd : decode c.code g.pc = .ok (.dup2, 1)) (hs : g.stack = .long x :: rest) (hr : Steps tb e below (T.setTop { g with pc := g.pc + 1, stack := .long x :: .long x :: rest }) target) : Steps tb e below (T.setTop g) target := by
  subst hg
  jvm_step h [h.top, hx, hd, hs, Value.category]
  exact hr
def EV (Z : State) (Ba : Int32) (Aa : Value) : Prop := Sta Z Z.heap "java/lang/String" "COMPACT_STRINGS" "Z" (.int Ba) ∧ ¬ (Ba = (0 : Int32)) ∧ Sta Z Z.heap "jdk/internal/util/Preconditions" "SIOOBE_FORMATTER" "Ljava/util/function/BiFunction;" Aa ∧ Aa.isRef = true ∧ Sta Z Z.heap "java/lang/StringUTF16" "$assertionsDisabled" "Z" (.int 1) ∧ Sta Z Z.heap "java/lang/StringUTF16" "HI_BYTE_SHIFT" "I" (.int 0) ∧ Sta Z Z.heap "java/lang/StringUTF16" "LO_BYTE_SHIFT" "I" (.int 8)
theorem Yi (x : Int32) : x.toInt8.toInt32.toInt8.toInt32 = x.toInt8.toInt32 := by
  have a := c_i2b x
  have b := c_i2b x.toInt8.toInt32
  apply Int32.toInt_inj.mp
  omega
theorem Di (x : Int32) : nar .byte (x.toInt8.toInt32) = x.toInt8.toInt32 := Yi x
theorem Hm {c : Int32} (h0 : ¬ c < 0) (h1 : ¬ (65535 : Int32) < c) : (((((c >>> ((0 : Int32) &&& 31)).toInt8.toInt32) &&& (255 : Int32)) <<< ((0 : Int32) &&& 31)) ||| ((((c >>> ((8 : Int32) &&& 31)).toInt8.toInt32) &&& (255 : Int32)) <<< ((8 : Int32) &&& 31))).toUInt32.toUInt16.toUInt32.toInt32 = c := by
  rw [Int32.lt_iff_toInt_lt] at h0 h1
  rw [(by decide : (0 : Int32).toInt = 0)] at h0
  rw [(by decide : (65535 : Int32).toInt = 65535)] at h1
  have a1 := c_ishr c 0 0 (by decide)
  have a2 := c_ishr c 8 8 (by decide)
  generalize c >>> ((0 : Int32) &&& 31) = x at *
  generalize c >>> ((8 : Int32) &&& 31) = y at *
  have b1 := c_i2b x
  have b2 := c_i2b y
  generalize x.toInt8.toInt32 = x1 at *
  generalize y.toInt8.toInt32 = y1 at *
  have d1 := c_mask x1 255 8 (by decide) (by decide)
  have d2 := c_mask y1 255 8 (by decide) (by decide)
  generalize x1 &&& 255 = x2 at *
  generalize y1 &&& 255 = y2 at *
  have e1 := c_ishl x2 0 0 (by decide)
  have e2 := c_ishl y2 8 8 (by decide)
  generalize x2 <<< ((0 : Int32) &&& 31) = x3 at *
  generalize y2 <<< ((8 : Int32) &&& 31) = y3 at *
  have r1 := rng32 x3
  have r2 := rng32 y3
  have f := c_or' x3 y3 8 (by decide) 256 (by decide) (by omega) (by omega) (by omega)
  have g := c_i2c (x3 ||| y3)
  apply Int32.toInt_inj.mp
  have r3 := rng32 (x3 ||| y3)
  omega
theorem Lw (m : MethodId) (x0 : Addr) (x1 : Int32) (x2 : Addr) (x3 : Int32) (x4 : Int32)  : entryFrame m #[(.ref x0), (.int x1), (.ref x2), (.int x3), (.int x4)] 7 = mkF m 0 #[.val (.ref x0), .val (.int x1), .val (.ref x2), .val (.int x3), .val (.int x4), .unset, .unset] [] := by first | (simp [entryFrame, mkF, argsToLocals, Value.category]; done) | rfl
theorem Rj : decode jdk_52_method_21_code 0 = .ok (.iconst 0, 1) := by decide +kernel
theorem Uj : decode jdk_52_method_21_code 1 = .ok (.istore 5, 2) := by decide +kernel
theorem Hb : decode jdk_52_method_21_code 3 = .ok (.iload 5, 2) := by decide +kernel
theorem Ib : decode jdk_52_method_21_code 5 = .ok (.iload 4, 2) := by decide +kernel
theorem Kb : decode jdk_52_method_21_code 7 = .ok (.if_icmp .ge 37, 3) := by decide +kernel
theorem Mb : decode jdk_52_method_21_code 10 = .ok (.aload_n 0, 1) := by decide +kernel
theorem Pb : decode jdk_52_method_21_code 11 = .ok (.iload_n 1, 1) := by decide +kernel
theorem Rb : decode jdk_52_method_21_code 12 = .ok (.caload, 1) := by decide +kernel
theorem Ub : decode jdk_52_method_21_code 13 = .ok (.istore 6, 2) := by decide +kernel
theorem Vb : decode jdk_52_method_21_code 15 = .ok (.iload 6, 2) := by decide +kernel
theorem Wb : decode jdk_52_method_21_code 17 = .ok (.sipush 255, 3) := by decide +kernel
theorem Wa : decode jdk_52_method_21_code 20 = .ok (.if_icmp .le 6, 3) := by decide +kernel
theorem Yb : decode jdk_52_method_21_code 23 = .ok (.iload 5, 2) := by decide +kernel
theorem Zb : decode jdk_52_method_21_code 25 = .ok (.ireturn, 1) := by decide +kernel
theorem Ac : decode jdk_52_method_21_code 26 = .ok (.aload_n 2, 1) := by decide +kernel
theorem Bc : decode jdk_52_method_21_code 27 = .ok (.iload_n 3, 1) := by decide +kernel
theorem Dc : decode jdk_52_method_21_code 28 = .ok (.iload 6, 2) := by decide +kernel
theorem Gc : decode jdk_52_method_21_code 30 = .ok (.i2b, 1) := by decide +kernel
theorem Hc : decode jdk_52_method_21_code 31 = .ok (.bastore, 1) := by decide +kernel
theorem Ic : decode jdk_52_method_21_code 32 = .ok (.iinc 1 1, 3) := by decide +kernel
theorem Kc : decode jdk_52_method_21_code 35 = .ok (.iinc 3 1, 3) := by decide +kernel
theorem Lc : decode jdk_52_method_21_code 38 = .ok (.iinc 5 1, 3) := by decide +kernel
theorem Mc : decode jdk_52_method_21_code 41 = .ok (.goto (-38), 3) := by decide +kernel
theorem Zi : decode jdk_52_method_21_code 44 = .ok (.iload 4, 2) := by decide +kernel
theorem Aj : decode jdk_52_method_21_code 46 = .ok (.ireturn, 1) := by decide +kernel
theorem Pa : plainName "java/lang/StringUTF16" = true := by first | (simp [plainName, overriddenIn]; done) | decide +kernel
abbrev Lm : MethodName := ⟨"java/lang/StringUTF16", "compress", "([CI[BII)I"⟩
def Vp (Z : State) (t0 : Addr) (t1 : Addr) (k0 : ClassId) (k1 : ClassId) (c0 : Int32) (Ba : Int32) (Aa : Value) (h0 : Heap) (n0 : Nat) (v : Option Value) (h : Heap) (L : List Loc) : Prop := ∃ (kk : Int32) (vs : List Value), v = some (.int kk) ∧ Fr n0 L ∧ Old Z n0 h ∧ Keep h0 h [t1] ∧ Arv Z h t1 k1 .byte (1 : Int32) vs (.int 0) ∧ (kk = (1 : Int32) ∨ (kk = (0 : Int32) ∧ (255 : Int32) < c0))
set_option maxRecDepth 65536 in
set_option maxHeartbeats 40000000 in
theorem Mw (l : Launch) (Z : State) (a0 : Array Value) (hw : ∀ d ∈ tables_1, d.before a0 Z = true) (ws : List Jvm.Cond) (t0 : Addr) (t1 : Addr) (k0 : ClassId) (k1 : ClassId) (c0 : Int32) (Ba : Int32) (Aa : Value) (h0 : Heap) (n0 : Nat) (O0 : Old Z n0 h0) (hE : EV Z Ba Aa) (P0 : Arv Z h0 t0 k0 .char (1 : Int32) [(.int c0)] (.int 0)) (P1 : Arv Z h0 t1 k1 .byte (1 : Int32) [(.int 0)] (.int 0)) (g_t1 : n0 ≤ t1) (nt : ¬ (t0 = t1)) :
    MetFree l Lm (head1 (Jvm.Cond.code Lm jdk_52_method_21_code 7 (some .int) :: ws) ({ frames := 0, cells := 0, slots := 0, locals := 0 } : Room)) (fun a U => a = #[(.ref t0), (.int 0), (.ref t1), (.int 0), (.int 1)] ∧ Z.Warmed39 U.vm ∧ U.heap = h0) (fun _ _ _ _ _ => True) (fun _ U o U' => ∃ v L, o = .returned v ∧ Vp Z t0 t1 k0 k1 c0 Ba Aa h0 n0 v U'.heap L ∧ FrameEnd U o U' L ({ frames := 0, cells := 0, slots := 0, locals := 0 } : Room).cells ({ frames := 0, cells := 0, slots := 0, locals := 0 } : Room).slots) := by
  refine MetFree.of_bodySF (plainFor_of_name Pa) hisR ?_
  intro p e s m args below meth c s₁ Bd hml0 hP hK
  obtain ⟨rfl, hZ, hh⟩ := hP
  have hx := Bd.exec
  have hby := Bd.bytes
  have hml : c.maxLocals = 7 := hml0
  have hown : s.vm.findClass "java/lang/StringUTF16" = some m.cls := findClass_of_methodNamed Bd.named
  have hnm := (name_of_methodNamed Bd.named Bd.method).1
  have X00 : Stand p l e ({ frames := 0, cells := 0, slots := 0, locals := 0 } : Room) s m #[(.ref t0), (.int 0), (.ref t1), (.int 0), (.int 1)] below meth c s₁ [] 0 0 := Stand.of_body Bd
  have e00 : s₁.heap = h0 := by rw [← hh, Bd.state]; rfl
  have N00 := Fr.nil n0
  refine Classical.byContradiction fun hNG => ?_
  have K00 := Keep.refl h0 [t1]
  have k00 : ∀ t, Ga p e below m s₁ 0 #[.val (.ref t0), .val (.int 0), .val (.ref t1), .val (.int 0), .val (.int 1), .unset, .unset] [] t → Ra p e below m s₁ #[(.ref t0), (.int 0), (.ref t1), (.int 0), (.int 1)] 7 t := fun t k => castTop (Lw m t0 ((0 : Int32)) t1 ((0 : Int32)) ((1 : Int32)) ) k
  obtain ⟨Ua, La, Va, Ma, Ha, Ia, Ka⟩ := (id hE : EV Z Ba Aa)
  obtain ⟨cl10, Ar10, q10, Sz10, Nn10, Hs10, Gf10⟩ := id P0
  have hin11 : ¬ ((0 : Int32) < 0 ∨ cl10.slots.size ≤ ((0 : Int32)).toNatClampNeg) := inb_of Sz10 ⟨by decide, by decide⟩
  have hat12 : cl10.slots[((0 : Int32)).toNatClampNeg]? = some (.int c0) := Hs10.at hin11 rfl
  have k13 : ∀ t, Ga p e below m s₁ 20 #[.val (.ref t0), .val (.int 0), .val (.ref t1), .val (.int 0), .val (.int 1), .val (.int 0), .val (.int c0)] [(.int 255), (.int c0)] t → Ra p e below m s₁ #[(.ref t0), (.int 0), (.ref t1), (.int 0), (.int 1)] 7 t := by
    intro t k
    refine k00 t ?_
    refine XS.iconst X00.here hx rfl (hb hby Rj) ?_
    refine XS.istore X00.here hx rfl (hb hby Uj) rfl (l' := #[.val (.ref t0), .val (.int 0), .val (.ref t1), .val (.int 0), .val (.int 1), .val (.int 0), .unset]) rfl ?_
    refine XS.iload X00.here hx rfl (hb hby Hb) rfl ?_
    refine XS.iload X00.here hx rfl (hb hby Ib) rfl ?_
    refine XS.icmpNo X00.here hx rfl (hb hby Kb) rfl (tlt (by decide : (0 : Int32) < (1 : Int32))).2.1 ?_
    refine XS.aloadN X00.here hx rfl (hb hby Mb) rfl rfl ?_
    refine XS.iloadN X00.here hx rfl (hb hby Pb) rfl ?_
    refine X00.caload hx (j := (0 : Int32)) (v := (.int c0)) (by rw [e00]; exact Ar10.1) (State.isArrayOf_alike hZ.alike Ar10.2.1) Ar10.2.2 hin11 hat12 (g := (mkF m 12 #[.val (.ref t0), .val (.int 0), .val (.ref t1), .val (.int 0), .val (.int 1), .val (.int 0), .unset] [(.int 0), (.ref t0)])) rfl rfl (hb hby Rb) _ ?_
    show Ga p e below m s₁ 13 #[.val (.ref t0), .val (.int 0), .val (.ref t1), .val (.int 0), .val (.int 1), .val (.int 0), .unset] [(.int c0)] t
    refine XS.istore X00.here hx rfl (hb hby Ub) rfl (l' := #[.val (.ref t0), .val (.int 0), .val (.ref t1), .val (.int 0), .val (.int 1), .val (.int 0), .val (.int c0)]) rfl ?_
    refine XS.iload X00.here hx rfl (hb hby Vb) rfl ?_
    refine XS.sipush X00.here hx rfl (hb hby Wb) ?_
    exact k
  by_cases hc14 : (255 : Int32) < c0
  · have k15 : ∀ t, Ga p e below m s₁ 25 #[.val (.ref t0), .val (.int 0), .val (.ref t1), .val (.int 0), .val (.int 1), .val (.int 0), .val (.int c0)] [(.int 0)] t → Ra p e below m s₁ #[(.ref t0), (.int 0), (.ref t1), (.int 0), (.int 1)] 7 t := by
      intro t k
      refine k13 t ?_
      refine XS.icmpNo X00.here hx rfl (hb hby Wa) rfl (tlt hc14).2.2.2 ?_
      refine XS.iload X00.here hx rfl (hb hby Yb) rfl ?_
      exact k
    obtain ⟨fs, hr, hrun, hended, hW, hsame⟩ := X00.leave (v := some (.int 0)) (fun h => by rw [Bd.returns] at h; cases h)
    refine hNG ⟨_, _, k15 _ ?_, hrun, hended, _, _, rfl, ?_, ⟨_, rfl⟩, hW, hsame.mono (by decide) (by decide)⟩
    · exact retOut X00 hx (t := .int) Bd.returns rfl (Or.inl ⟨rfl, Or.inl rfl, _, rfl⟩) (hb hby Zb) hr
    · show Vp Z t0 t1 k0 k1 c0 Ba Aa h0 n0 _ s₁.heap _
      rw [e00]
      exact ⟨(0 : Int32), _, rfl, N00, O0, K00, P1, (Or.inr (⟨rfl, hc14⟩))⟩
  · obtain ⟨cl16, Ar16, q16, Sz16, Nn16, Hs16, Gf16⟩ := id P1
    have hin17 : ¬ ((0 : Int32) < 0 ∨ cl16.slots.size ≤ ((0 : Int32)).toNatClampNeg) := inb_of Sz16 ⟨by decide, by decide⟩
    obtain ⟨T18, h18, X18, e18, W18, st18⟩ := stB X00 hx hZ e00 Ar16 (j := (0 : Int32)) hin17 (g := (mkF m 31 #[.val (.ref t0), .val (.int 0), .val (.ref t1), .val (.int 0), .val (.int 1), .val (.int 0), .val (.int c0)] [(.int (c0.toInt8.toInt32)), (.int 0), (.ref t1)])) rfl rfl (hb hby Hc)
    have V18 : Arv Z h18 t1 k1 .byte (1 : Int32) [(.int ((c0.toInt8.toInt32).toInt8.toInt32))] (.int 0) := Arv.set Ar16 q16 Sz16 Nn16 Hs16 Gf16 (fits_nar_byte _) W18 0 rfl (Nat.le_of_ble_eq_true rfl)
    have N18 := Fr.snoc X18 N00 g_t1
    have O18 := O0.wr W18 g_t1
    have K18 := K00.wr W18 (Or.inl (List.mem_of_getElem? (i := 0) rfl))
    have k19 : ∀ t, Ga p e below m T18 46 #[.val (.ref t0), .val (.int 1), .val (.ref t1), .val (.int 1), .val (.int 1), .val (.int 1), .val (.int c0)] [(.int 1)] t → Ra p e below m s₁ #[(.ref t0), (.int 0), (.ref t1), (.int 0), (.int 1)] 7 t := by
      intro t k
      refine k13 t ?_
      refine XS.icmpYes X00.here hx rfl (pc0 := 20) (pc' := 26) rfl (hb hby Wa) rfl (flt hc14).2.2.2 (by decide) (by decide) ?_
      refine XS.aloadN X00.here hx rfl (hb hby Ac) rfl rfl ?_
      refine XS.iloadN X00.here hx rfl (hb hby Bc) rfl ?_
      refine XS.iload X00.here hx rfl (hb hby Dc) rfl ?_
      refine XS.i2b X00.here hx rfl (hb hby Gc) rfl ?_
      refine st18 _ ?_
      refine XS.iinc X18.here hx rfl (hb hby Ic) rfl (l' := #[.val (.ref t0), .val (.int ((0 : Int32) + (1 : Int32))), .val (.ref t1), .val (.int 0), .val (.int 1), .val (.int 0), .val (.int c0)]) rfl ?_
      show Ga p e below m T18 35 #[.val (.ref t0), .val (.int ((0 : Int32) + (1 : Int32))), .val (.ref t1), .val (.int 0), .val (.int 1), .val (.int 0), .val (.int c0)] [] t
      rw [show ((0 : Int32) + (1 : Int32)) = (1 : Int32) from by decide]
      show Ga p e below m T18 35 #[.val (.ref t0), .val (.int 1), .val (.ref t1), .val (.int 0), .val (.int 1), .val (.int 0), .val (.int c0)] [] t
      refine XS.iinc X18.here hx rfl (hb hby Kc) rfl (l' := #[.val (.ref t0), .val (.int 1), .val (.ref t1), .val (.int ((0 : Int32) + (1 : Int32))), .val (.int 1), .val (.int 0), .val (.int c0)]) rfl ?_
      show Ga p e below m T18 38 #[.val (.ref t0), .val (.int 1), .val (.ref t1), .val (.int ((0 : Int32) + (1 : Int32))), .val (.int 1), .val (.int 0), .val (.int c0)] [] t
      rw [show ((0 : Int32) + (1 : Int32)) = (1 : Int32) from by decide]
      refine XS.iinc X18.here hx rfl (hb hby Lc) rfl (l' := #[.val (.ref t0), .val (.int 1), .val (.ref t1), .val (.int 1), .val (.int 1), .val (.int ((0 : Int32) + (1 : Int32))), .val (.int c0)]) rfl ?_
      show Ga p e below m T18 41 #[.val (.ref t0), .val (.int 1), .val (.ref t1), .val (.int 1), .val (.int 1), .val (.int ((0 : Int32) + (1 : Int32))), .val (.int c0)] [] t
      rw [show ((0 : Int32) + (1 : Int32)) = (1 : Int32) from by decide]
      refine XS.goto X18.here hx rfl (pc0 := 41) (pc' := 3) rfl (hb hby Mc) (by decide) (by decide) ?_
      refine XS.iload X18.here hx rfl (hb hby Hb) rfl ?_
      refine XS.iload X18.here hx rfl (hb hby Ib) rfl ?_
      refine XS.icmpYes X18.here hx rfl (pc0 := 7) (pc' := 44) rfl (hb hby Kb) rfl (flt (by decide : ¬ ((1 : Int32) < (1 : Int32)))).2.1 (by decide) (by decide) ?_
      show Ga p e below m T18 44 #[.val (.ref t0), .val (.int 1), .val (.ref t1), .val (.int 1), .val (.int 1), .val (.int 1), .val (.int c0)] [] t
      refine XS.iload X18.here hx rfl (hb hby Zi) rfl ?_
      exact k
    obtain ⟨fs, hr, hrun, hended, hW, hsame⟩ := X18.leave (v := some (.int 1)) (fun h => by rw [Bd.returns] at h; cases h)
    refine hNG ⟨_, _, k19 _ ?_, hrun, hended, _, _, rfl, ?_, ⟨_, rfl⟩, hW, hsame.mono (by decide) (by decide)⟩
    · exact retOut X18 hx (t := .int) Bd.returns rfl (Or.inl ⟨rfl, Or.inl rfl, _, rfl⟩) (hb hby Aj) hr
    · show Vp Z t0 t1 k0 k1 c0 Ba Aa h0 n0 _ T18.heap _
      rw [e18]
      exact ⟨(1 : Int32), _, rfl, N18, O18, K18, V18, (Or.inl rfl)⟩
theorem Pw (m : MethodId) (x0 : Int32)  : entryFrame m #[(.int x0)] 1 = mkF m 0 #[.val (.int x0)] [] := by first | (simp [entryFrame, mkF, argsToLocals, Value.category]; done) | rfl
theorem Bl : decode jdk_52_method_2_code 0 = .ok (.iload_n 0, 1) := by decide +kernel
theorem Dl : decode jdk_52_method_2_code 1 = .ok (.invokestatic 11, 3) := by decide +kernel
theorem ef_f1 (m : MethodId) (x0 : Int32)  : entryFrame m #[(.int x0)] 1 = mkF m 0 #[.val (.int x0)] [] := by first | (simp [entryFrame, mkF, argsToLocals, Value.category]; done) | rfl
theorem Gl : decode jdk_52_method_3_code 0 = .ok (.iload_n 0, 1) := by decide +kernel
theorem Hl : decode jdk_52_method_3_code 1 = .ok (.ifCond .ge 11, 3) := by decide +kernel
theorem Vj : decode jdk_52_method_3_code 12 = .ok (.iload_n 0, 1) := by decide +kernel
theorem Wj : decode jdk_52_method_3_code 13 = .ok (.ldc 20, 2) := by decide +kernel
theorem Yj : decode jdk_52_method_3_code 15 = .ok (.if_icmp .lt 40, 3) := by decide +kernel
theorem Zj : decode jdk_52_method_3_code 55 = .ok (.iload_n 0, 1) := by decide +kernel
theorem Ak : decode jdk_52_method_3_code 56 = .ok (.iconst 1, 1) := by decide +kernel
theorem Bk : decode jdk_52_method_3_code 57 = .ok (.ishl, 1) := by decide +kernel
theorem Dk : decode jdk_52_method_3_code 58 = .ok (.ireturn, 1) := by decide +kernel
abbrev Mm : MethodName := ⟨"java/lang/StringUTF16", "newBytesLength", "(I)I"⟩
def Q_f1 (Z : State) (Ba : Int32) (Aa : Value) (h0 : Heap) (n0 : Nat) (v : Option Value) (h : Heap) (L : List Loc) : Prop := v = some (.int 2) ∧ Fr n0 L ∧ h = h0
set_option maxRecDepth 65536 in
set_option maxHeartbeats 40000000 in
theorem rm_f1 (l : Launch) (Z : State) (a0 : Array Value) (hw : ∀ d ∈ tables_1, d.before a0 Z = true) (ws : List Jvm.Cond) (Ba : Int32) (Aa : Value) (h0 : Heap) (n0 : Nat) (O0 : Old Z n0 h0) (hE : EV Z Ba Aa) :
    MetFree l Mm (head1 (Jvm.Cond.code Mm jdk_52_method_3_code 1 (some .int) :: ws) ({ frames := 0, cells := 0, slots := 0, locals := 0 } : Room)) (fun a U => a = #[(.int 1)] ∧ Z.Warmed39 U.vm ∧ U.heap = h0) (fun _ _ _ _ _ => True) (fun _ U o U' => ∃ v L, o = .returned v ∧ Q_f1 Z Ba Aa h0 n0 v U'.heap L ∧ FrameEnd U o U' L ({ frames := 0, cells := 0, slots := 0, locals := 0 } : Room).cells ({ frames := 0, cells := 0, slots := 0, locals := 0 } : Room).slots) := by
  refine MetFree.of_bodySF (plainFor_of_name Pa) hisR ?_
  intro p e s m args below meth c s₁ Bd hml0 hP hK
  obtain ⟨rfl, hZ, hh⟩ := hP
  have hx := Bd.exec
  have hby := Bd.bytes
  have hml : c.maxLocals = 1 := hml0
  have hown : s.vm.findClass "java/lang/StringUTF16" = some m.cls := findClass_of_methodNamed Bd.named
  have hnm := (name_of_methodNamed Bd.named Bd.method).1
  have X00 : Stand p l e ({ frames := 0, cells := 0, slots := 0, locals := 0 } : Room) s m #[(.int 1)] below meth c s₁ [] 0 0 := Stand.of_body Bd
  have e00 : s₁.heap = h0 := by rw [← hh, Bd.state]; rfl
  have N00 := Fr.nil n0
  refine Classical.byContradiction fun hNG => ?_
  have K00 := Keep.refl h0 []
  have k00 : ∀ t, Ga p e below m s₁ 0 #[.val (.int 1)] [] t → Ra p e below m s₁ #[(.int 1)] 1 t := fun t k => castTop (ef_f1 m ((1 : Int32)) ) k
  obtain ⟨Ua, La, Va, Ma, Ha, Ia, Ka⟩ := (id hE : EV Z Ba Aa)
  have k10 : ∀ t, Ga p e below m s₁ 58 #[.val (.int 1)] [(.int 2)] t → Ra p e below m s₁ #[(.int 1)] 1 t := by
    intro t k
    refine k00 t ?_
    refine XS.iloadN X00.here hx rfl (hb hby Gl) rfl ?_
    refine XS.ifYes X00.here hx rfl (pc0 := 1) (pc' := 12) rfl (hb hby Hl) rfl ((if0 _ _).trans (flt (by decide : ¬ ((1 : Int32) < (0 : Int32)))).2.1) (by decide) (by decide) ?_
    refine XS.iloadN X00.here hx rfl (hb hby Vj) rfl ?_
    refine X00.ldcI hx hown (mvT hZ (Da hw 56 rfl)) rfl (hb hby Wj) ?_
    refine XS.icmpYes X00.here hx rfl (pc0 := 15) (pc' := 55) rfl (hb hby Yj) rfl (tlt (by decide : (1 : Int32) < (1073741823 : Int32))).1 (by decide) (by decide) ?_
    refine XS.iloadN X00.here hx rfl (hb hby Zj) rfl ?_
    refine XS.iconst X00.here hx rfl (hb hby Ak) ?_
    refine XS.ishl X00.here hx rfl (hb hby Bk) rfl ?_
    show Ga p e below m s₁ 58 #[.val (.int 1)] [(.int ((1 : Int32) <<< ((1 : Int32) &&& 31)))] t
    rw [show ((1 : Int32) <<< ((1 : Int32) &&& 31)) = (2 : Int32) from by decide]
    exact k
  obtain ⟨fs, hr, hrun, hended, hW, hsame⟩ := X00.leave (v := some (.int 2)) (fun h => by rw [Bd.returns] at h; cases h)
  refine hNG ⟨_, _, k10 _ ?_, hrun, hended, _, _, rfl, ?_, ⟨_, rfl⟩, hW, hsame.mono (by decide) (by decide)⟩
  · exact retOut X00 hx (t := .int) Bd.returns rfl (Or.inl ⟨rfl, Or.inl rfl, _, rfl⟩) (hb hby Dk) hr
  · show Q_f1 Z Ba Aa h0 n0 _ s₁.heap _
    rw [e00]
    exact ⟨rfl, N00, rfl⟩
theorem Kp : parseMethodDescriptor "(I)I" = some ⟨[.int], some .int⟩ := by decide +kernel
theorem Il : decode jdk_52_method_2_code 4 = .ok (.newarray .byte, 2) := by decide +kernel
theorem Kl : decode jdk_52_method_2_code 6 = .ok (.areturn, 1) := by decide +kernel
abbrev Pm : MethodName := ⟨"java/lang/StringUTF16", "newBytesFor", "(I)[B"⟩
def Bs (Z : State) (Ba : Int32) (Aa : Value) (h0 : Heap) (n0 : Nat) (v : Option Value) (h : Heap) (L : List Loc) : Prop := ∃ (b : Addr) (k : ClassId), v = some (.ref b) ∧ Fr n0 L ∧ Old Z n0 h ∧ Keep h0 h [] ∧ n0 ≤ b ∧ h0.size ≤ b ∧ Arv Z h b k .byte (2 : Int32) [(.int 0), (.int 0)] (.int 0)
set_option maxRecDepth 65536 in
set_option maxHeartbeats 40000000 in
theorem Rw (l : Launch) (Z : State) (a0 : Array Value) (hw : ∀ d ∈ tables_1, d.before a0 Z = true) (ws : List Jvm.Cond) (Ba : Int32) (Aa : Value) (h0 : Heap) (n0 : Nat) (O0 : Old Z n0 h0) (hE : EV Z Ba Aa) :
    MetFree l Pm (head1 (Jvm.Cond.code Pm jdk_52_method_2_code 1 (some (.array .byte)) :: ws) ({ frames := 1, cells := 1, slots := 2, locals := 12 } : Room)) (fun a U => a = #[(.int 1)] ∧ Z.Warmed39 U.vm ∧ U.heap = h0) (fun _ _ _ _ _ => True) (fun _ U o U' => ∃ v L, o = .returned v ∧ Bs Z Ba Aa h0 n0 v U'.heap L ∧ FrameEnd U o U' L ({ frames := 1, cells := 1, slots := 2, locals := 12 } : Room).cells ({ frames := 1, cells := 1, slots := 2, locals := 12 } : Room).slots) := by
  refine MetFree.of_bodySF (plainFor_of_name Pa) hisR ?_
  intro p e s m args below meth c s₁ Bd hml0 hP hK
  obtain ⟨rfl, hZ, hh⟩ := hP
  have hx := Bd.exec
  have hby := Bd.bytes
  have hml : c.maxLocals = 1 := hml0
  have hown : s.vm.findClass "java/lang/StringUTF16" = some m.cls := findClass_of_methodNamed Bd.named
  have hnm := (name_of_methodNamed Bd.named Bd.method).1
  have X00 : Stand p l e ({ frames := 1, cells := 1, slots := 2, locals := 12 } : Room) s m #[(.int 1)] below meth c s₁ [] 0 0 := Stand.of_body Bd
  have e00 : s₁.heap = h0 := by rw [← hh, Bd.state]; rfl
  have N00 := Fr.nil n0
  refine Classical.byContradiction fun hNG => ?_
  have K00 := Keep.refl h0 []
  have k00 : ∀ t, Ga p e below m s₁ 0 #[.val (.int 1)] [] t → Ra p e below m s₁ #[(.int 1)] 1 t := fun t k => castTop (Pw m ((1 : Int32)) ) k
  obtain ⟨Ua, La, Va, Ma, Ha, Ia, Ka⟩ := (id hE : EV Z Ba Aa)
  obtain ⟨_, _, ⟨T10, L10, k10, n10⟩, -, X10, ⟨Lc10, hQ10, l10, y10, z10⟩, st10⟩ := Jvm.LawKit.callS X00 hx (y := Mm) hown (mvT hZ (Da hw 53 rfl)) (mvT hZ (Da hw 54 rfl)) (mvT hZ (Da hw 18 rfl)) (mvT hZ (Da hw 55 rfl)) (by decide) (backOf (W := 0) (rm_f1 l Z a0 hw []  _ _ h0 n0 O0 hE) hZ (Da hw 55 rfl) (Da hw 18 rfl) (by decide) (by decide)) (g := (mkF m 1 #[.val (.int 1)] [(.int 1)])) rfl (by rw [hml]; rfl) (argsL := [(.int 1)]) (rest := []) (lenOf Kp rfl) rfl (by show 2 * 0 + _ ≤ _; exact Nat.le_of_eq rfl) (hb hby Dl) (fun _ _ => ⟨rfl, e00, (by decide : 0 + 0 ≤ _), (by decide : 0 + 0 ≤ _)⟩)
  dsimp only [Pt.U, Pt.locs, Pt.cells, Pt.slots] at X10 l10 y10 z10 st10 hQ10
  subst l10 y10 z10
  obtain ⟨rfl, N10q, hp10⟩ := hQ10
  have N10 := Fr.app N00 N10q
  obtain ⟨T11, h11, c11, X11, e11, E11, A11, st11⟩ := newP X10 hx hZ (Da hw 20 rfl) hp10 (g := (mkF m 4 #[.val (.int 1)] [(.int 2)])) rfl (hb hby Il) rfl (by decide) (cap := 2) (by decide) (by decide) (by decide) (by decide)
  obtain ⟨b11, g11⟩ : ∃ z, z = h0.size := ⟨_, rfl⟩
  rw [← g11] at A11 st11
  have O11 := O0.ext E11
  have g_b11 : n0 ≤ b11 := Nat.le_trans (Nat.le_of_eq O0.1.symm) (Nat.le_trans O0.2.1 (Nat.le_of_eq g11.symm))
  have s_b11 : h0.size ≤ b11 := Nat.le_trans K00.1 (Nat.le_of_eq g11.symm)
  have K11 := K00.ext E11
  have V11 : Arv Z h11 b11 c11 .byte (2 : Int32) [(.int 0), (.int 0)] (.int 0) := (Arv.new A11 (by decide)).pad (pad_rep [] (.int 0) 2)
  have lt_b11 := V11.lt
  have k12 : ∀ t, Ga p e below m T11 6 #[.val (.int 1)] [(.ref b11)] t → Ra p e below m s₁ #[(.int 1)] 1 t := by
    intro t k
    refine k00 t ?_
    refine XS.iloadN X00.here hx rfl (hb hby Bl) rfl ?_
    refine st10 _ ?_
    refine st11 _ ?_
    exact k
  obtain ⟨fs, hr, hrun, hended, hW, hsame⟩ := X11.leave (v := some (.ref b11)) (fun h => by rw [Bd.returns] at h; cases h)
  refine hNG ⟨_, _, k12 _ ?_, hrun, hended, _, _, rfl, ?_, ⟨_, rfl⟩, hW, hsame.mono (by decide) (by decide)⟩
  · exact retOut X11 hx (t := (.array .byte)) Bd.returns rfl (Or.inr (Or.inr (Or.inr (Or.inr ⟨rfl, rfl, rfl⟩)))) (hb hby Kl) hr
  · show Bs Z Ba Aa h0 n0 _ T11.heap _
    rw [e11]
    exact ⟨b11, c11, rfl, N10, O11, K11, g_b11, s_b11, V11⟩
theorem Ws (m : MethodId) (x0 : Addr) (x1 : Int32) (x2 : Int32)  : entryFrame m #[(.ref x0), (.int x1), (.int x2)] 3 = mkF m 0 #[.val (.ref x0), .val (.int x1), .val (.int x2)] [] := by first | (simp [entryFrame, mkF, argsToLocals, Value.category]; done) | rfl
theorem Rg : decode jdk_52_method_4_code 0 = .ok (.getstatic 44, 3) := by decide +kernel
theorem Ug : decode jdk_52_method_4_code 3 = .ok (.ifCond .ne 25, 3) := by decide +kernel
theorem Zd : decode jdk_52_method_4_code 28 = .ok (.iload_n 1, 1) := by decide +kernel
theorem Ae : decode jdk_52_method_4_code 29 = .ok (.iconst 1, 1) := by decide +kernel
theorem Be : decode jdk_52_method_4_code 30 = .ok (.ishl, 1) := by decide +kernel
theorem De : decode jdk_52_method_4_code 31 = .ok (.istore_n 1, 1) := by decide +kernel
theorem Ge : decode jdk_52_method_4_code 32 = .ok (.aload_n 0, 1) := by decide +kernel
theorem He : decode jdk_52_method_4_code 33 = .ok (.iload_n 1, 1) := by decide +kernel
theorem Ie : decode jdk_52_method_4_code 34 = .ok (.iinc 1 1, 3) := by decide +kernel
theorem Ke : decode jdk_52_method_4_code 37 = .ok (.iload_n 2, 1) := by decide +kernel
theorem Le : decode jdk_52_method_4_code 38 = .ok (.getstatic 59, 3) := by decide +kernel
theorem Me : decode jdk_52_method_4_code 41 = .ok (.ishr, 1) := by decide +kernel
theorem Pe : decode jdk_52_method_4_code 42 = .ok (.i2b, 1) := by decide +kernel
theorem Re : decode jdk_52_method_4_code 43 = .ok (.bastore, 1) := by decide +kernel
theorem Ue : decode jdk_52_method_4_code 44 = .ok (.aload_n 0, 1) := by decide +kernel
theorem Ve : decode jdk_52_method_4_code 45 = .ok (.iload_n 1, 1) := by decide +kernel
theorem We : decode jdk_52_method_4_code 46 = .ok (.iload_n 2, 1) := by decide +kernel
theorem Ye : decode jdk_52_method_4_code 47 = .ok (.getstatic 63, 3) := by decide +kernel
theorem Ze : decode jdk_52_method_4_code 50 = .ok (.ishr, 1) := by decide +kernel
theorem Af : decode jdk_52_method_4_code 51 = .ok (.i2b, 1) := by decide +kernel
theorem Bf : decode jdk_52_method_4_code 52 = .ok (.bastore, 1) := by decide +kernel
theorem Df : decode jdk_52_method_4_code 53 = .ok (.return_, 1) := by decide +kernel
abbrev Gi : MethodName := ⟨"java/lang/StringUTF16", "putChar", "([BII)V"⟩
def Hq (Z : State) (q0 : Addr) (k0 : ClassId) (cq : Int32) (x0 : Int32) (x1 : Int32) (Ba : Int32) (Aa : Value) (h0 : Heap) (n0 : Nat) (v : Option Value) (h : Heap) (L : List Loc) : Prop := v = none ∧ Fr n0 L ∧ Old Z n0 h ∧ Keep h0 h [q0] ∧ Arv Z h q0 k0 .byte (2 : Int32) [(.int ((cq >>> ((0 : Int32) &&& 31)).toInt8.toInt32)), (.int ((cq >>> ((8 : Int32) &&& 31)).toInt8.toInt32))] (.int 0)
set_option maxRecDepth 65536 in
set_option maxHeartbeats 40000000 in
theorem Ys (l : Launch) (Z : State) (a0 : Array Value) (hw : ∀ d ∈ tables_1, d.before a0 Z = true) (ws : List Jvm.Cond) (q0 : Addr) (k0 : ClassId) (cq : Int32) (x0 : Int32) (x1 : Int32) (Ba : Int32) (Aa : Value) (h0 : Heap) (n0 : Nat) (O0 : Old Z n0 h0) (hE : EV Z Ba Aa) (P0 : Arv Z h0 q0 k0 .byte (2 : Int32) [(.int x0), (.int x1)] (.int 0)) (g_q0 : n0 ≤ q0) :
    MetFree l Gi (head1 (Jvm.Cond.code Gi jdk_52_method_4_code 3 none :: ws) ({ frames := 0, cells := 0, slots := 0, locals := 0 } : Room)) (fun a U => a = #[(.ref q0), (.int 0), (.int cq)] ∧ Z.Warmed39 U.vm ∧ U.heap = h0) (fun _ _ _ _ _ => True) (fun _ U o U' => ∃ v L, o = .returned v ∧ Hq Z q0 k0 cq x0 x1 Ba Aa h0 n0 v U'.heap L ∧ FrameEnd U o U' L ({ frames := 0, cells := 0, slots := 0, locals := 0 } : Room).cells ({ frames := 0, cells := 0, slots := 0, locals := 0 } : Room).slots) := by
  refine MetFree.of_bodySF (plainFor_of_name Pa) hisR ?_
  intro p e s m args below meth c s₁ Bd hml0 hP hK
  obtain ⟨rfl, hZ, hh⟩ := hP
  have hx := Bd.exec
  have hby := Bd.bytes
  have hml : c.maxLocals = 3 := hml0
  have hown : s.vm.findClass "java/lang/StringUTF16" = some m.cls := findClass_of_methodNamed Bd.named
  have hnm := (name_of_methodNamed Bd.named Bd.method).1
  have X00 : Stand p l e ({ frames := 0, cells := 0, slots := 0, locals := 0 } : Room) s m #[(.ref q0), (.int 0), (.int cq)] below meth c s₁ [] 0 0 := Stand.of_body Bd
  have e00 : s₁.heap = h0 := by rw [← hh, Bd.state]; rfl
  have N00 := Fr.nil n0
  refine Classical.byContradiction fun hNG => ?_
  have K00 := Keep.refl h0 [q0]
  have k00 : ∀ t, Ga p e below m s₁ 0 #[.val (.ref q0), .val (.int 0), .val (.int cq)] [] t → Ra p e below m s₁ #[(.ref q0), (.int 0), (.int cq)] 3 t := fun t k => castTop (Ws m q0 ((0 : Int32)) cq ) k
  obtain ⟨Ua, La, Va, Ma, Ha, Ia, Ka⟩ := (id hE : EV Z Ba Aa)
  obtain ⟨T10, X10, e10, st10⟩ := getS2 X00 hx hZ hown (host := "") (Or.inl (Da hw 60 rfl)) Via.refl e00 (Ha.ext O0.2) (g := (mkF m 0 #[.val (.ref q0), .val (.int 0), .val (.int cq)] [])) rfl (hb hby Rg)
  obtain ⟨T11, X11, e11, st11⟩ := getS2 X10 hx hZ hown (host := "") (Or.inl (Da hw 61 rfl)) Via.refl e10 (Ia.ext O0.2) (g := (mkF m 38 #[.val (.ref q0), .val (.int 1), .val (.int cq)] [(.int cq), (.int 0), (.ref q0)])) rfl (hb hby Le)
  obtain ⟨cl12, Ar12, q12, Sz12, Nn12, Hs12, Gf12⟩ := id P0
  have hin13 : ¬ ((0 : Int32) < 0 ∨ cl12.slots.size ≤ ((0 : Int32)).toNatClampNeg) := inb_of Sz12 ⟨by decide, by decide⟩
  obtain ⟨T14, h14, X14, e14, W14, st14⟩ := stB X11 hx hZ e11 Ar12 (j := (0 : Int32)) hin13 (g := (mkF m 43 #[.val (.ref q0), .val (.int 1), .val (.int cq)] [(.int ((cq >>> ((0 : Int32) &&& 31)).toInt8.toInt32)), (.int 0), (.ref q0)])) rfl rfl (hb hby Re)
  have V14 : Arv Z h14 q0 k0 .byte (2 : Int32) [(.int ((cq >>> ((0 : Int32) &&& 31)).toInt8.toInt32)), (.int x1)] (.int 0) := by
    have q := Arv.set Ar12 q12 Sz12 Nn12 Hs12 Gf12 (fits_nar_byte _) W14 0 rfl (Nat.le_of_ble_eq_true rfl)
    first | exact q | (simp only [Yi, Di] at q; exact q)
  have N14 := Fr.snoc X14 N00 g_q0
  have O14 := O0.wr W14 g_q0
  have K14 := K00.wr W14 (Or.inl (List.mem_of_getElem? (i := 0) rfl))
  obtain ⟨T15, X15, e15, st15⟩ := getS2 X14 hx hZ hown (host := "") (Or.inl (Da hw 62 rfl)) Via.refl e14 (Ka.ext O14.2) (g := (mkF m 47 #[.val (.ref q0), .val (.int 1), .val (.int cq)] [(.int cq), (.int 1), (.ref q0)])) rfl (hb hby Ye)
  obtain ⟨cl16, Ar16, q16, Sz16, Nn16, Hs16, Gf16⟩ := id V14
  have hin17 : ¬ ((1 : Int32) < 0 ∨ cl16.slots.size ≤ ((1 : Int32)).toNatClampNeg) := inb_of Sz16 ⟨by decide, by decide⟩
  obtain ⟨T18, h18, X18, e18, W18, st18⟩ := stB X15 hx hZ e15 Ar16 (j := (1 : Int32)) hin17 (g := (mkF m 52 #[.val (.ref q0), .val (.int 1), .val (.int cq)] [(.int ((cq >>> ((8 : Int32) &&& 31)).toInt8.toInt32)), (.int 1), (.ref q0)])) rfl rfl (hb hby Bf)
  have V18 : Arv Z h18 q0 k0 .byte (2 : Int32) [(.int ((cq >>> ((0 : Int32) &&& 31)).toInt8.toInt32)), (.int ((cq >>> ((8 : Int32) &&& 31)).toInt8.toInt32))] (.int 0) := by
    have q := Arv.set Ar16 q16 Sz16 Nn16 Hs16 Gf16 (fits_nar_byte _) W18 1 rfl (Nat.le_of_ble_eq_true rfl)
    first | exact q | (simp only [Yi, Di] at q; exact q)
  have N18 := Fr.snoc X18 N14 g_q0
  have O18 := O14.wr W18 g_q0
  have K18 := K14.wr W18 (Or.inl (List.mem_of_getElem? (i := 0) rfl))
  have k19 : ∀ t, Ga p e below m T18 53 #[.val (.ref q0), .val (.int 1), .val (.int cq)] [] t → Ra p e below m s₁ #[(.ref q0), (.int 0), (.int cq)] 3 t := by
    intro t k
    refine k00 t ?_
    refine st10 _ ?_
    refine XS.ifYes X10.here hx rfl (pc0 := 3) (pc' := 28) rfl (hb hby Ug) rfl ((if0 _ _).trans (feq (by decide : ¬ ((1 : Int32) = (0 : Int32)))).2) (by decide) (by decide) ?_
    refine XS.iloadN X10.here hx rfl (hb hby Zd) rfl ?_
    refine XS.iconst X10.here hx rfl (hb hby Ae) ?_
    refine XS.ishl X10.here hx rfl (hb hby Be) rfl ?_
    show Ga p e below m T10 31 #[.val (.ref q0), .val (.int 0), .val (.int cq)] [(.int ((0 : Int32) <<< ((1 : Int32) &&& 31)))] t
    rw [show ((0 : Int32) <<< ((1 : Int32) &&& 31)) = (0 : Int32) from by decide]
    refine XS.istoreN X10.here hx rfl (hb hby De) rfl (l' := #[.val (.ref q0), .val (.int 0), .val (.int cq)]) rfl ?_
    refine XS.aloadN X10.here hx rfl (hb hby Ge) rfl rfl ?_
    show Ga p e below m T10 33 #[.val (.ref q0), .val (.int 0), .val (.int cq)] [(.ref q0)] t
    refine XS.iloadN X10.here hx rfl (hb hby He) rfl ?_
    refine XS.iinc X10.here hx rfl (hb hby Ie) rfl (l' := #[.val (.ref q0), .val (.int ((0 : Int32) + (1 : Int32))), .val (.int cq)]) rfl ?_
    show Ga p e below m T10 37 #[.val (.ref q0), .val (.int ((0 : Int32) + (1 : Int32))), .val (.int cq)] [(.int 0), (.ref q0)] t
    rw [show ((0 : Int32) + (1 : Int32)) = (1 : Int32) from by decide]
    refine XS.iloadN X10.here hx rfl (hb hby Ke) rfl ?_
    refine st11 _ ?_
    refine XS.ishr X11.here hx rfl (hb hby Me) rfl ?_
    refine XS.i2b X11.here hx rfl (hb hby Pe) rfl ?_
    refine st14 _ ?_
    show Ga p e below m T14 44 #[.val (.ref q0), .val (.int 1), .val (.int cq)] [] t
    refine XS.aloadN X14.here hx rfl (hb hby Ue) rfl rfl ?_
    refine XS.iloadN X14.here hx rfl (hb hby Ve) rfl ?_
    refine XS.iloadN X14.here hx rfl (hb hby We) rfl ?_
    refine st15 _ ?_
    refine XS.ishr X15.here hx rfl (hb hby Ze) rfl ?_
    refine XS.i2b X15.here hx rfl (hb hby Af) rfl ?_
    refine st18 _ ?_
    exact k
  obtain ⟨fs, hr, hrun, hended, hW, hsame⟩ := X18.leave (v := none) (fun _ => rfl)
  refine hNG ⟨_, _, k19 _ ?_, hrun, hended, _, _, rfl, ?_, ⟨_, rfl⟩, hW, hsame.mono (by decide) (by decide)⟩
  · exact X18.returnOut hx Bd.returns (hb hby Df) hr
  · show Hq Z q0 k0 cq x0 x1 Ba Aa h0 n0 _ T18.heap _
    rw [e18]
    exact ⟨rfl, N18, O18, K18, V18⟩
theorem Uw (m : MethodId) (x0 : Addr) (x1 : Int32) (x2 : Int32)  : entryFrame m #[(.ref x0), (.int x1), (.int x2)] 5 = mkF m 0 #[.val (.ref x0), .val (.int x1), .val (.int x2), .unset, .unset] [] := by first | (simp [entryFrame, mkF, argsToLocals, Value.category]; done) | rfl
theorem Gk : decode jdk_52_method_14_code 0 = .ok (.iload_n 2, 1) := by decide +kernel
theorem Hk : decode jdk_52_method_14_code 1 = .ok (.invokestatic 107, 3) := by decide +kernel
theorem Zo : parseMethodDescriptor "(I)[B" = some ⟨[.int], some (.array .byte)⟩ := by decide +kernel
theorem Ik : decode jdk_52_method_14_code 4 = .ok (.astore_n 3, 1) := by decide +kernel
theorem Kk : decode jdk_52_method_14_code 5 = .ok (.iconst 0, 1) := by decide +kernel
theorem Lk : decode jdk_52_method_14_code 6 = .ok (.istore 4, 2) := by decide +kernel
theorem Lb : decode jdk_52_method_14_code 8 = .ok (.iload 4, 2) := by decide +kernel
theorem Ya : decode jdk_52_method_14_code 10 = .ok (.iload_n 2, 1) := by decide +kernel
theorem Za : decode jdk_52_method_14_code 11 = .ok (.if_icmp .ge 21, 3) := by decide +kernel
theorem Pc : decode jdk_52_method_14_code 14 = .ok (.aload_n 3, 1) := by decide +kernel
theorem Rc : decode jdk_52_method_14_code 15 = .ok (.iload 4, 2) := by decide +kernel
theorem Uc : decode jdk_52_method_14_code 17 = .ok (.aload_n 0, 1) := by decide +kernel
theorem Vc : decode jdk_52_method_14_code 18 = .ok (.iload_n 1, 1) := by decide +kernel
theorem Wc : decode jdk_52_method_14_code 19 = .ok (.caload, 1) := by decide +kernel
theorem Yc : decode jdk_52_method_14_code 20 = .ok (.invokestatic 111, 3) := by decide +kernel
theorem Bm : parseMethodDescriptor "([BII)V" = some ⟨[(.array .byte), .int, .int], none⟩ := by decide +kernel
theorem Zc : decode jdk_52_method_14_code 23 = .ok (.iinc 1 1, 3) := by decide +kernel
theorem Ad : decode jdk_52_method_14_code 26 = .ok (.iinc 4 1, 3) := by decide +kernel
theorem Dd : decode jdk_52_method_14_code 29 = .ok (.goto (-21), 3) := by decide +kernel
theorem Bj : decode jdk_52_method_14_code 32 = .ok (.aload_n 3, 1) := by decide +kernel
theorem Dj : decode jdk_52_method_14_code 33 = .ok (.areturn, 1) := by decide +kernel
abbrev Am : MethodName := ⟨"java/lang/StringUTF16", "toBytes", "([CII)[B"⟩
def Ds (Z : State) (t0 : Addr) (k0 : ClassId) (c0 : Int32) (Ba : Int32) (Aa : Value) (h0 : Heap) (n0 : Nat) (v : Option Value) (h : Heap) (L : List Loc) : Prop := ∃ (b : Addr) (k : ClassId), v = some (.ref b) ∧ Fr n0 L ∧ Old Z n0 h ∧ Keep h0 h [] ∧ n0 ≤ b ∧ h0.size ≤ b ∧ Arv Z h b k .byte (2 : Int32) [(.int ((c0 >>> ((0 : Int32) &&& 31)).toInt8.toInt32)), (.int ((c0 >>> ((8 : Int32) &&& 31)).toInt8.toInt32))] (.int 0)
set_option maxRecDepth 65536 in
set_option maxHeartbeats 40000000 in
theorem Vw (l : Launch) (Z : State) (a0 : Array Value) (hw : ∀ d ∈ tables_1, d.before a0 Z = true) (ws : List Jvm.Cond) (t0 : Addr) (k0 : ClassId) (c0 : Int32) (Ba : Int32) (Aa : Value) (h0 : Heap) (n0 : Nat) (O0 : Old Z n0 h0) (hE : EV Z Ba Aa) (P0 : Arv Z h0 t0 k0 .char (1 : Int32) [(.int c0)] (.int 0)) :
    MetFree l Am (head1 (Jvm.Cond.code Am jdk_52_method_14_code 5 (some (.array .byte)) :: ws) ({ frames := 2, cells := 1, slots := 2, locals := 24 } : Room)) (fun a U => a = #[(.ref t0), (.int 0), (.int 1)] ∧ Z.Warmed39 U.vm ∧ U.heap = h0) (fun _ _ _ _ _ => True) (fun _ U o U' => ∃ v L, o = .returned v ∧ Ds Z t0 k0 c0 Ba Aa h0 n0 v U'.heap L ∧ FrameEnd U o U' L ({ frames := 2, cells := 1, slots := 2, locals := 24 } : Room).cells ({ frames := 2, cells := 1, slots := 2, locals := 24 } : Room).slots) := by
  refine MetFree.of_bodySF (plainFor_of_name Pa) hisR ?_
  intro p e s m args below meth c s₁ Bd hml0 hP hK
  obtain ⟨rfl, hZ, hh⟩ := hP
  have hx := Bd.exec
  have hby := Bd.bytes
  have hml : c.maxLocals = 5 := hml0
  have hown : s.vm.findClass "java/lang/StringUTF16" = some m.cls := findClass_of_methodNamed Bd.named
  have hnm := (name_of_methodNamed Bd.named Bd.method).1
  have X00 : Stand p l e ({ frames := 2, cells := 1, slots := 2, locals := 24 } : Room) s m #[(.ref t0), (.int 0), (.int 1)] below meth c s₁ [] 0 0 := Stand.of_body Bd
  have e00 : s₁.heap = h0 := by rw [← hh, Bd.state]; rfl
  have N00 := Fr.nil n0
  refine Classical.byContradiction fun hNG => ?_
  have K00 := Keep.refl h0 []
  have k00 : ∀ t, Ga p e below m s₁ 0 #[.val (.ref t0), .val (.int 0), .val (.int 1), .unset, .unset] [] t → Ra p e below m s₁ #[(.ref t0), (.int 0), (.int 1)] 5 t := fun t k => castTop (Uw m t0 ((0 : Int32)) ((1 : Int32)) ) k
  obtain ⟨Ua, La, Va, Ma, Ha, Ia, Ka⟩ := (id hE : EV Z Ba Aa)
  obtain ⟨_, _, ⟨T10, L10, k10, n10⟩, -, X10, ⟨Lc10, hQ10, l10, y10, z10⟩, st10⟩ := Jvm.LawKit.callS X00 hx (y := Pm) hown (mvT hZ (Da hw 50 rfl)) (mvT hZ (Da hw 51 rfl)) (mvT hZ (Da hw 18 rfl)) (mvT hZ (Da hw 52 rfl)) (by decide) (backOf (W := 0) (Rw l Z a0 hw []  _ _ h0 n0 O0 hE  ) hZ (Da hw 52 rfl) (Da hw 18 rfl) (by decide) (by decide)) (g := (mkF m 1 #[.val (.ref t0), .val (.int 0), .val (.int 1), .unset, .unset] [(.int 1)])) rfl (by rw [hml]; rfl) (argsL := [(.int 1)]) (rest := []) (lenOf Zo rfl) rfl (by show 2 * 0 + _ ≤ _; exact Nat.le_of_eq rfl) (hb hby Hk) (fun _ _ => ⟨rfl, e00, (by decide : 0 + 1 ≤ _), (by decide : 0 + 2 ≤ _)⟩)
  dsimp only [Pt.U, Pt.locs, Pt.cells, Pt.slots] at X10 l10 y10 z10 st10 hQ10
  subst l10 y10 z10
  obtain ⟨b10, k10, rfl, N10q, O10, Kc10, g_b10, gs_b10, F10_0⟩ := hQ10
  have N10 := Fr.app N00 N10q
  have K10 := K00.trans Kc10 (fun x hx => nomatch hx)
  have s_b10 := Nat.le_trans K00.1 gs_b10
  have lt_b10 := F10_0.lt
  have f11 := (P0.keep Kc10 List.not_mem_nil)
  obtain ⟨cl12, Ar12, q12, Sz12, Nn12, Hs12, Gf12⟩ := id f11
  have hin13 : ¬ ((0 : Int32) < 0 ∨ cl12.slots.size ≤ ((0 : Int32)).toNatClampNeg) := inb_of Sz12 ⟨by decide, by decide⟩
  have hat14 : cl12.slots[((0 : Int32)).toNatClampNeg]? = some (.int c0) := Hs12.at hin13 rfl
  obtain ⟨_, _, ⟨T15, L15, k15, n15⟩, -, X15, ⟨Lc15, hQ15, l15, y15, z15⟩, st15⟩ := Jvm.LawKit.callS X10 hx (y := Gi) hown (mvT hZ (Da hw 57 rfl)) (mvT hZ (Da hw 58 rfl)) (mvT hZ (Da hw 18 rfl)) (mvT hZ (Da hw 59 rfl)) (by decide) (backOf (W := 0) (Ys l Z a0 hw [] b10 k10 c0 (0 : Int32) (0 : Int32) _ _ T10.heap n0 O10 hE F10_0 g_b10 ) hZ (Da hw 59 rfl) (Da hw 18 rfl) (by decide) (by decide)) (g := (mkF m 20 #[.val (.ref t0), .val (.int 0), .val (.int 1), .val (.ref b10), .val (.int 0)] [(.int c0), (.int 0), (.ref b10)])) rfl (by rw [hml]; rfl) (argsL := [(.ref b10), (.int 0), (.int c0)]) (rest := []) (lenOf Bm rfl) rfl (by show 2 * 0 + _ ≤ _; exact Nat.le_of_eq rfl) (hb hby Yc) (fun _ _ => ⟨rfl, rfl, (by decide : 1 + 0 ≤ _), (by decide : 2 + 0 ≤ _)⟩)
  dsimp only [Pt.U, Pt.locs, Pt.cells, Pt.slots] at X15 l15 y15 z15 st15 hQ15
  subst l15 y15 z15
  obtain ⟨rfl, N15q, O15, Kc15, F15_0⟩ := hQ15
  have N15 := Fr.app N10 N15q
  have K15 := K10.trans Kc15 (allS (Or.inr s_b10) all0)
  have k16 : ∀ t, Ga p e below m T15 33 #[.val (.ref t0), .val (.int 1), .val (.int 1), .val (.ref b10), .val (.int 1)] [(.ref b10)] t → Ra p e below m s₁ #[(.ref t0), (.int 0), (.int 1)] 5 t := by
    intro t k
    refine k00 t ?_
    refine XS.iloadN X00.here hx rfl (hb hby Gk) rfl ?_
    refine st10 _ ?_
    refine XS.astoreN X10.here hx rfl (hb hby Ik) rfl rfl (l' := #[.val (.ref t0), .val (.int 0), .val (.int 1), .val (.ref b10), .unset]) rfl ?_
    refine XS.iconst X10.here hx rfl (hb hby Kk) ?_
    refine XS.istore X10.here hx rfl (hb hby Lk) rfl (l' := #[.val (.ref t0), .val (.int 0), .val (.int 1), .val (.ref b10), .val (.int 0)]) rfl ?_
    refine XS.iload X10.here hx rfl (hb hby Lb) rfl ?_
    refine XS.iloadN X10.here hx rfl (hb hby Ya) rfl ?_
    refine XS.icmpNo X10.here hx rfl (hb hby Za) rfl (tlt (by decide : (0 : Int32) < (1 : Int32))).2.1 ?_
    show Ga p e below m T10 14 #[.val (.ref t0), .val (.int 0), .val (.int 1), .val (.ref b10), .val (.int 0)] [] t
    refine XS.aloadN X10.here hx rfl (hb hby Pc) rfl rfl ?_
    refine XS.iload X10.here hx rfl (hb hby Rc) rfl ?_
    refine XS.aloadN X10.here hx rfl (hb hby Uc) rfl rfl ?_
    refine XS.iloadN X10.here hx rfl (hb hby Vc) rfl ?_
    refine X10.caload hx (j := (0 : Int32)) (v := (.int c0)) (by exact Ar12.1) (State.isArrayOf_alike hZ.alike Ar12.2.1) Ar12.2.2 hin13 hat14 (g := (mkF m 19 #[.val (.ref t0), .val (.int 0), .val (.int 1), .val (.ref b10), .val (.int 0)] [(.int 0), (.ref t0), (.int 0), (.ref b10)])) rfl rfl (hb hby Wc) _ ?_
    refine st15 _ ?_
    refine XS.iinc X15.here hx rfl (hb hby Zc) rfl (l' := #[.val (.ref t0), .val (.int ((0 : Int32) + (1 : Int32))), .val (.int 1), .val (.ref b10), .val (.int 0)]) rfl ?_
    show Ga p e below m T15 26 #[.val (.ref t0), .val (.int ((0 : Int32) + (1 : Int32))), .val (.int 1), .val (.ref b10), .val (.int 0)] [] t
    rw [show ((0 : Int32) + (1 : Int32)) = (1 : Int32) from by decide]
    show Ga p e below m T15 26 #[.val (.ref t0), .val (.int 1), .val (.int 1), .val (.ref b10), .val (.int 0)] [] t
    refine XS.iinc X15.here hx rfl (hb hby Ad) rfl (l' := #[.val (.ref t0), .val (.int 1), .val (.int 1), .val (.ref b10), .val (.int ((0 : Int32) + (1 : Int32)))]) rfl ?_
    show Ga p e below m T15 29 #[.val (.ref t0), .val (.int 1), .val (.int 1), .val (.ref b10), .val (.int ((0 : Int32) + (1 : Int32)))] [] t
    rw [show ((0 : Int32) + (1 : Int32)) = (1 : Int32) from by decide]
    refine XS.goto X15.here hx rfl (pc0 := 29) (pc' := 8) rfl (hb hby Dd) (by decide) (by decide) ?_
    refine XS.iload X15.here hx rfl (hb hby Lb) rfl ?_
    refine XS.iloadN X15.here hx rfl (hb hby Ya) rfl ?_
    refine XS.icmpYes X15.here hx rfl (pc0 := 11) (pc' := 32) rfl (hb hby Za) rfl (flt (by decide : ¬ ((1 : Int32) < (1 : Int32)))).2.1 (by decide) (by decide) ?_
    refine XS.aloadN X15.here hx rfl (hb hby Bj) rfl rfl ?_
    exact k
  obtain ⟨fs, hr, hrun, hended, hW, hsame⟩ := X15.leave (v := some (.ref b10)) (fun h => by rw [Bd.returns] at h; cases h)
  refine hNG ⟨_, _, k16 _ ?_, hrun, hended, _, _, rfl, ?_, ⟨_, rfl⟩, hW, hsame.mono (by decide) (by decide)⟩
  · exact retOut X15 hx (t := (.array .byte)) Bd.returns rfl (Or.inr (Or.inr (Or.inr (Or.inr ⟨rfl, rfl, rfl⟩)))) (hb hby Dj) hr
  · show Ds Z t0 k0 c0 Ba Aa h0 n0 _ T15.heap _
    exact ⟨b10, k10, rfl, N15, O15, K15, g_b10, s_b10, F15_0⟩
theorem Zs (m : MethodId) (x0 : Addr) (x1 : Int32)  : entryFrame m #[(.ref x0), (.int x1)] 2 = mkF m 0 #[.val (.ref x0), .val (.int x1)] [] := by first | (simp [entryFrame, mkF, argsToLocals, Value.category]; done) | rfl
theorem Vg : decode jdk_52_method_5_code 0 = .ok (.getstatic 44, 3) := by decide +kernel
theorem Wg : decode jdk_52_method_5_code 3 = .ok (.ifCond .ne 25, 3) := by decide +kernel
theorem Gf : decode jdk_52_method_5_code 28 = .ok (.iload_n 1, 1) := by decide +kernel
theorem Hf : decode jdk_52_method_5_code 29 = .ok (.iconst 1, 1) := by decide +kernel
theorem Kf : decode jdk_52_method_5_code 30 = .ok (.ishl, 1) := by decide +kernel
theorem Lf : decode jdk_52_method_5_code 31 = .ok (.istore_n 1, 1) := by decide +kernel
theorem Mf : decode jdk_52_method_5_code 32 = .ok (.aload_n 0, 1) := by decide +kernel
theorem Pf : decode jdk_52_method_5_code 33 = .ok (.iload_n 1, 1) := by decide +kernel
theorem Rf : decode jdk_52_method_5_code 34 = .ok (.iinc 1 1, 3) := by decide +kernel
theorem Uf : decode jdk_52_method_5_code 37 = .ok (.baload, 1) := by decide +kernel
theorem Vf : decode jdk_52_method_5_code 38 = .ok (.sipush 255, 3) := by decide +kernel
theorem Wf : decode jdk_52_method_5_code 41 = .ok (.iand, 1) := by decide +kernel
theorem Yf : decode jdk_52_method_5_code 42 = .ok (.getstatic 59, 3) := by decide +kernel
theorem Zf : decode jdk_52_method_5_code 45 = .ok (.ishl, 1) := by decide +kernel
theorem Ag : decode jdk_52_method_5_code 46 = .ok (.aload_n 0, 1) := by decide +kernel
theorem Bg : decode jdk_52_method_5_code 47 = .ok (.iload_n 1, 1) := by decide +kernel
theorem Dg : decode jdk_52_method_5_code 48 = .ok (.baload, 1) := by decide +kernel
theorem Gg : decode jdk_52_method_5_code 49 = .ok (.sipush 255, 3) := by decide +kernel
theorem Hg : decode jdk_52_method_5_code 52 = .ok (.iand, 1) := by decide +kernel
theorem Ig : decode jdk_52_method_5_code 53 = .ok (.getstatic 63, 3) := by decide +kernel
theorem Kg : decode jdk_52_method_5_code 56 = .ok (.ishl, 1) := by decide +kernel
theorem Lg : decode jdk_52_method_5_code 57 = .ok (.ior, 1) := by decide +kernel
theorem Mg : decode jdk_52_method_5_code 58 = .ok (.i2c, 1) := by decide +kernel
theorem Pg : decode jdk_52_method_5_code 59 = .ok (.ireturn, 1) := by decide +kernel
abbrev Hi : MethodName := ⟨"java/lang/StringUTF16", "getChar", "([BI)C"⟩
def Iq (Z : State) (q0 : Addr) (k0 : ClassId) (x0 : Int32) (x1 : Int32) (Ba : Int32) (Aa : Value) (h0 : Heap) (n0 : Nat) (v : Option Value) (h : Heap) (L : List Loc) : Prop := v = some (.int ((((x0 &&& (255 : Int32)) <<< ((0 : Int32) &&& 31)) ||| ((x1 &&& (255 : Int32)) <<< ((8 : Int32) &&& 31))).toUInt32.toUInt16.toUInt32.toInt32)) ∧ Fr n0 L ∧ h = h0
set_option maxRecDepth 65536 in
set_option maxHeartbeats 40000000 in
theorem Bt (l : Launch) (Z : State) (a0 : Array Value) (hw : ∀ d ∈ tables_1, d.before a0 Z = true) (ws : List Jvm.Cond) (q0 : Addr) (k0 : ClassId) (x0 : Int32) (x1 : Int32) (Ba : Int32) (Aa : Value) (h0 : Heap) (n0 : Nat) (O0 : Old Z n0 h0) (hE : EV Z Ba Aa) (P0 : Arv Z h0 q0 k0 .byte (2 : Int32) [(.int x0), (.int x1)] (.int 0)) :
    MetFree l Hi (head1 (Jvm.Cond.code Hi jdk_52_method_5_code 2 (some .char) :: ws) ({ frames := 0, cells := 0, slots := 0, locals := 0 } : Room)) (fun a U => a = #[(.ref q0), (.int 0)] ∧ Z.Warmed39 U.vm ∧ U.heap = h0) (fun _ _ _ _ _ => True) (fun _ U o U' => ∃ v L, o = .returned v ∧ Iq Z q0 k0 x0 x1 Ba Aa h0 n0 v U'.heap L ∧ FrameEnd U o U' L ({ frames := 0, cells := 0, slots := 0, locals := 0 } : Room).cells ({ frames := 0, cells := 0, slots := 0, locals := 0 } : Room).slots) := by
  refine MetFree.of_bodySF (plainFor_of_name Pa) hisR ?_
  intro p e s m args below meth c s₁ Bd hml0 hP hK
  obtain ⟨rfl, hZ, hh⟩ := hP
  have hx := Bd.exec
  have hby := Bd.bytes
  have hml : c.maxLocals = 2 := hml0
  have hown : s.vm.findClass "java/lang/StringUTF16" = some m.cls := findClass_of_methodNamed Bd.named
  have hnm := (name_of_methodNamed Bd.named Bd.method).1
  have X00 : Stand p l e ({ frames := 0, cells := 0, slots := 0, locals := 0 } : Room) s m #[(.ref q0), (.int 0)] below meth c s₁ [] 0 0 := Stand.of_body Bd
  have e00 : s₁.heap = h0 := by rw [← hh, Bd.state]; rfl
  have N00 := Fr.nil n0
  refine Classical.byContradiction fun hNG => ?_
  have K00 := Keep.refl h0 []
  have k00 : ∀ t, Ga p e below m s₁ 0 #[.val (.ref q0), .val (.int 0)] [] t → Ra p e below m s₁ #[(.ref q0), (.int 0)] 2 t := fun t k => castTop (Zs m q0 ((0 : Int32)) ) k
  obtain ⟨Ua, La, Va, Ma, Ha, Ia, Ka⟩ := (id hE : EV Z Ba Aa)
  obtain ⟨T10, X10, e10, st10⟩ := getS2 X00 hx hZ hown (host := "") (Or.inl (Da hw 60 rfl)) Via.refl e00 (Ha.ext O0.2) (g := (mkF m 0 #[.val (.ref q0), .val (.int 0)] [])) rfl (hb hby Vg)
  obtain ⟨cl11, Ar11, q11, Sz11, Nn11, Hs11, Gf11⟩ := id P0
  have hin12 : ¬ ((0 : Int32) < 0 ∨ cl11.slots.size ≤ ((0 : Int32)).toNatClampNeg) := inb_of Sz11 ⟨by decide, by decide⟩
  have hat13 : cl11.slots[((0 : Int32)).toNatClampNeg]? = some (.int x0) := Hs11.at hin12 rfl
  obtain ⟨T14, X14, e14, st14⟩ := getS2 X10 hx hZ hown (host := "") (Or.inl (Da hw 61 rfl)) Via.refl e10 (Ia.ext O0.2) (g := (mkF m 42 #[.val (.ref q0), .val (.int 1)] [(.int (x0 &&& (255 : Int32)))])) rfl (hb hby Yf)
  obtain ⟨cl15, Ar15, q15, Sz15, Nn15, Hs15, Gf15⟩ := id P0
  have hin16 : ¬ ((1 : Int32) < 0 ∨ cl15.slots.size ≤ ((1 : Int32)).toNatClampNeg) := inb_of Sz15 ⟨by decide, by decide⟩
  have hat17 : cl15.slots[((1 : Int32)).toNatClampNeg]? = some (.int x1) := Hs15.at hin16 rfl
  obtain ⟨T18, X18, e18, st18⟩ := getS2 X14 hx hZ hown (host := "") (Or.inl (Da hw 62 rfl)) Via.refl e14 (Ka.ext O0.2) (g := (mkF m 53 #[.val (.ref q0), .val (.int 1)] [(.int (x1 &&& (255 : Int32))), (.int ((x0 &&& (255 : Int32)) <<< ((0 : Int32) &&& 31)))])) rfl (hb hby Ig)
  have k19 : ∀ t, Ga p e below m T18 59 #[.val (.ref q0), .val (.int 1)] [(.int ((((x0 &&& (255 : Int32)) <<< ((0 : Int32) &&& 31)) ||| ((x1 &&& (255 : Int32)) <<< ((8 : Int32) &&& 31))).toUInt32.toUInt16.toUInt32.toInt32))] t → Ra p e below m s₁ #[(.ref q0), (.int 0)] 2 t := by
    intro t k
    refine k00 t ?_
    refine st10 _ ?_
    refine XS.ifYes X10.here hx rfl (pc0 := 3) (pc' := 28) rfl (hb hby Wg) rfl ((if0 _ _).trans (feq (by decide : ¬ ((1 : Int32) = (0 : Int32)))).2) (by decide) (by decide) ?_
    refine XS.iloadN X10.here hx rfl (hb hby Gf) rfl ?_
    refine XS.iconst X10.here hx rfl (hb hby Hf) ?_
    refine XS.ishl X10.here hx rfl (hb hby Kf) rfl ?_
    show Ga p e below m T10 31 #[.val (.ref q0), .val (.int 0)] [(.int ((0 : Int32) <<< ((1 : Int32) &&& 31)))] t
    rw [show ((0 : Int32) <<< ((1 : Int32) &&& 31)) = (0 : Int32) from by decide]
    refine XS.istoreN X10.here hx rfl (hb hby Lf) rfl (l' := #[.val (.ref q0), .val (.int 0)]) rfl ?_
    refine XS.aloadN X10.here hx rfl (hb hby Mf) rfl rfl ?_
    show Ga p e below m T10 33 #[.val (.ref q0), .val (.int 0)] [(.ref q0)] t
    refine XS.iloadN X10.here hx rfl (hb hby Pf) rfl ?_
    refine XS.iinc X10.here hx rfl (hb hby Rf) rfl (l' := #[.val (.ref q0), .val (.int ((0 : Int32) + (1 : Int32)))]) rfl ?_
    show Ga p e below m T10 37 #[.val (.ref q0), .val (.int ((0 : Int32) + (1 : Int32)))] [(.int 0), (.ref q0)] t
    rw [show ((0 : Int32) + (1 : Int32)) = (1 : Int32) from by decide]
    refine X10.baloadBytes hx (j := (0 : Int32)) (v := (.int x0)) (by rw [e10]; exact Ar11.1) (State.isArrayOf_alike hZ.alike Ar11.2.1) Ar11.2.2 hin12 hat13 (g := (mkF m 37 #[.val (.ref q0), .val (.int 1)] [(.int 0), (.ref q0)])) rfl rfl (hb hby Uf) _ ?_
    refine XS.sipush X10.here hx rfl (hb hby Vf) ?_
    refine XS.iand X10.here hx rfl (hb hby Wf) rfl ?_
    refine st14 _ ?_
    refine XS.ishl X14.here hx rfl (hb hby Zf) rfl ?_
    show Ga p e below m T14 46 #[.val (.ref q0), .val (.int 1)] [(.int ((x0 &&& (255 : Int32)) <<< ((0 : Int32) &&& 31)))] t
    refine XS.aloadN X14.here hx rfl (hb hby Ag) rfl rfl ?_
    refine XS.iloadN X14.here hx rfl (hb hby Bg) rfl ?_
    refine X14.baloadBytes hx (j := (1 : Int32)) (v := (.int x1)) (by rw [e14]; exact Ar15.1) (State.isArrayOf_alike hZ.alike Ar15.2.1) Ar15.2.2 hin16 hat17 (g := (mkF m 48 #[.val (.ref q0), .val (.int 1)] [(.int 1), (.ref q0), (.int ((x0 &&& (255 : Int32)) <<< ((0 : Int32) &&& 31)))])) rfl rfl (hb hby Dg) _ ?_
    refine XS.sipush X14.here hx rfl (hb hby Gg) ?_
    refine XS.iand X14.here hx rfl (hb hby Hg) rfl ?_
    refine st18 _ ?_
    refine XS.ishl X18.here hx rfl (hb hby Kg) rfl ?_
    refine XS.ior X18.here hx rfl (hb hby Lg) rfl ?_
    show Ga p e below m T18 58 #[.val (.ref q0), .val (.int 1)] [(.int (((x0 &&& (255 : Int32)) <<< ((0 : Int32) &&& 31)) ||| ((x1 &&& (255 : Int32)) <<< ((8 : Int32) &&& 31))))] t
    refine XS.i2c X18.here hx rfl (hb hby Mg) rfl ?_
    exact k
  obtain ⟨fs, hr, hrun, hended, hW, hsame⟩ := X18.leave (v := some (.int ((((x0 &&& (255 : Int32)) <<< ((0 : Int32) &&& 31)) ||| ((x1 &&& (255 : Int32)) <<< ((8 : Int32) &&& 31))).toUInt32.toUInt16.toUInt32.toInt32))) (fun h => by rw [Bd.returns] at h; cases h)
  refine hNG ⟨_, _, k19 _ ?_, hrun, hended, _, _, rfl, ?_, ⟨_, rfl⟩, hW, hsame.mono (by decide) (by decide)⟩
  · exact retN X18 hx (t := .char) Bd.returns (by simp) (hb hby Pg) (by first | exact hr | (rw [show nar .char ((((x0 &&& (255 : Int32)) <<< ((0 : Int32) &&& 31)) ||| ((x1 &&& (255 : Int32)) <<< ((8 : Int32) &&& 31))).toUInt32.toUInt16.toUInt32.toInt32) = ((((x0 &&& (255 : Int32)) <<< ((0 : Int32) &&& 31)) ||| ((x1 &&& (255 : Int32)) <<< ((8 : Int32) &&& 31))).toUInt32.toUInt16.toUInt32.toInt32) from by first | rfl | exact Wi _ | decide]; exact hr))
  · show Iq Z q0 k0 x0 x1 Ba Aa h0 n0 _ T18.heap _
    rw [e18]
    exact ⟨rfl, N00, rfl⟩
theorem Ww (m : MethodId) (x0 : Addr) (x1 : Int32) (x2 : Int32)  : entryFrame m #[(.ref x0), (.int x1), (.int x2)] 6 = mkF m 0 #[.val (.ref x0), .val (.int x1), .val (.int x2), .unset, .unset, .unset] [] := by first | (simp [entryFrame, mkF, argsToLocals, Value.category]; done) | rfl
theorem Mk : decode jdk_52_method_16_code 0 = .ok (.iload_n 2, 1) := by decide +kernel
theorem Pk : decode jdk_52_method_16_code 1 = .ok (.newarray .byte, 2) := by decide +kernel
theorem Rk : decode jdk_52_method_16_code 3 = .ok (.astore_n 3, 1) := by decide +kernel
theorem Uk : decode jdk_52_method_16_code 4 = .ok (.aload_n 0, 1) := by decide +kernel
theorem Vk : decode jdk_52_method_16_code 5 = .ok (.iload_n 1, 1) := by decide +kernel
theorem Wk : decode jdk_52_method_16_code 6 = .ok (.aload_n 3, 1) := by decide +kernel
theorem Yk : decode jdk_52_method_16_code 7 = .ok (.iconst 0, 1) := by decide +kernel
theorem Zk : decode jdk_52_method_16_code 8 = .ok (.iload_n 2, 1) := by decide +kernel
theorem Al : decode jdk_52_method_16_code 9 = .ok (.invokestatic 115, 3) := by decide +kernel
theorem Dn : parseMethodDescriptor "([CI[BII)I" = some ⟨[(.array .char), .int, (.array .byte), .int, .int], some .int⟩ := by decide +kernel
theorem Ab : decode jdk_52_method_16_code 12 = .ok (.istore 4, 2) := by decide +kernel
theorem Bb : decode jdk_52_method_16_code 14 = .ok (.iload 4, 2) := by decide +kernel
theorem Db : decode jdk_52_method_16_code 16 = .ok (.iload_n 2, 1) := by decide +kernel
theorem Gb : decode jdk_52_method_16_code 17 = .ok (.if_icmp .eq 40, 3) := by decide +kernel
theorem Gj : decode jdk_52_method_16_code 57 = .ok (.aload_n 3, 1) := by decide +kernel
theorem Hj : decode jdk_52_method_16_code 58 = .ok (.areturn, 1) := by decide +kernel
theorem Gd : decode jdk_52_method_16_code 20 = .ok (.aload_n 0, 1) := by decide +kernel
theorem Hd : decode jdk_52_method_16_code 21 = .ok (.iload_n 1, 1) := by decide +kernel
theorem Id : decode jdk_52_method_16_code 22 = .ok (.iload_n 2, 1) := by decide +kernel
theorem Kd : decode jdk_52_method_16_code 23 = .ok (.invokestatic 119, 3) := by decide +kernel
theorem Ii : parseMethodDescriptor "([CII)[B" = some ⟨[(.array .char), .int, .int], some (.array .byte)⟩ := by decide +kernel
theorem Ld : decode jdk_52_method_16_code 26 = .ok (.astore 5, 2) := by decide +kernel
theorem Md : decode jdk_52_method_16_code 28 = .ok (.aload 5, 2) := by decide +kernel
theorem Pd : decode jdk_52_method_16_code 30 = .ok (.iload 4, 2) := by decide +kernel
theorem Rd : decode jdk_52_method_16_code 32 = .ok (.invokestatic 71, 3) := by decide +kernel
theorem Gm : parseMethodDescriptor "([BI)C" = some ⟨[(.array .byte), .int], some .char⟩ := by decide +kernel
theorem Ud : decode jdk_52_method_16_code 35 = .ok (.sipush 255, 3) := by decide +kernel
theorem Vd : decode jdk_52_method_16_code 38 = .ok (.if_icmp .gt 16, 3) := by decide +kernel
theorem Wd : decode jdk_52_method_16_code 54 = .ok (.aload 5, 2) := by decide +kernel
theorem Yd : decode jdk_52_method_16_code 56 = .ok (.areturn, 1) := by decide +kernel
abbrev Rm : MethodName := ⟨"java/lang/StringUTF16", "compress", "([CII)[B"⟩
def Wp (Z : State) (t0 : Addr) (k0 : ClassId) (c0 : Int32) (Ba : Int32) (Aa : Value) (h0 : Heap) (n0 : Nat) (v : Option Value) (h : Heap) (L : List Loc) : Prop := ∃ (b : Addr) (z : Int32) (k : ClassId) (vs : List Value), v = some (.ref b) ∧ Fr n0 L ∧ Old Z n0 h ∧ Keep h0 h [] ∧ n0 ≤ b ∧ h0.size ≤ b ∧ Arv Z h b k .byte z vs (.int 0) ∧ ((z = (1 : Int32) ∨ z = (2 : Int32)))
set_option maxRecDepth 65536 in
set_option maxHeartbeats 40000000 in
theorem Yw (l : Launch) (Z : State) (a0 : Array Value) (hw : ∀ d ∈ tables_1, d.before a0 Z = true) (ws : List Jvm.Cond) (t0 : Addr) (k0 : ClassId) (c0 : Int32) (Ba : Int32) (Aa : Value) (h0 : Heap) (n0 : Nat) (O0 : Old Z n0 h0) (hE : EV Z Ba Aa) (P0 : Arv Z h0 t0 k0 .char (1 : Int32) [(.int c0)] (.int 0)) (lo0 : ¬ c0 < 0) (hi0 : ¬ (65535 : Int32) < c0) :
    MetFree l Rm (head1 (Jvm.Cond.code Rm jdk_52_method_16_code 6 (some (.array .byte)) :: ws) ({ frames := 3, cells := 2, slots := 3, locals := 40 } : Room)) (fun a U => a = #[(.ref t0), (.int 0), (.int 1)] ∧ Z.Warmed39 U.vm ∧ U.heap = h0) (fun _ _ _ _ _ => True) (fun _ U o U' => ∃ v L, o = .returned v ∧ Wp Z t0 k0 c0 Ba Aa h0 n0 v U'.heap L ∧ FrameEnd U o U' L ({ frames := 3, cells := 2, slots := 3, locals := 40 } : Room).cells ({ frames := 3, cells := 2, slots := 3, locals := 40 } : Room).slots) := by
  refine MetFree.of_bodySF (plainFor_of_name Pa) hisR ?_
  intro p e s m args below meth c s₁ Bd hml0 hP hK
  obtain ⟨rfl, hZ, hh⟩ := hP
  have hx := Bd.exec
  have hby := Bd.bytes
  have hml : c.maxLocals = 6 := hml0
  have hown : s.vm.findClass "java/lang/StringUTF16" = some m.cls := findClass_of_methodNamed Bd.named
  have hnm := (name_of_methodNamed Bd.named Bd.method).1
  have X00 : Stand p l e ({ frames := 3, cells := 2, slots := 3, locals := 40 } : Room) s m #[(.ref t0), (.int 0), (.int 1)] below meth c s₁ [] 0 0 := Stand.of_body Bd
  have e00 : s₁.heap = h0 := by rw [← hh, Bd.state]; rfl
  have N00 := Fr.nil n0
  refine Classical.byContradiction fun hNG => ?_
  have K00 := Keep.refl h0 []
  have k00 : ∀ t, Ga p e below m s₁ 0 #[.val (.ref t0), .val (.int 0), .val (.int 1), .unset, .unset, .unset] [] t → Ra p e below m s₁ #[(.ref t0), (.int 0), (.int 1)] 6 t := fun t k => castTop (Ww m t0 ((0 : Int32)) ((1 : Int32)) ) k
  obtain ⟨Ua, La, Va, Ma, Ha, Ia, Ka⟩ := (id hE : EV Z Ba Aa)
  obtain ⟨T10, h10, c10, X10, e10, E10, A10, st10⟩ := newP X00 hx hZ (Da hw 20 rfl) e00 (g := (mkF m 1 #[.val (.ref t0), .val (.int 0), .val (.int 1), .unset, .unset, .unset] [(.int 1)])) rfl (hb hby Pk) rfl (by decide) (cap := 1) (by decide) (by decide) (by decide) (by decide)
  obtain ⟨b10, g10⟩ : ∃ z, z = h0.size := ⟨_, rfl⟩
  rw [← g10] at A10 st10
  have O10 := O0.ext E10
  have g_b10 : n0 ≤ b10 := Nat.le_trans (Nat.le_of_eq O0.1.symm) (Nat.le_trans O0.2.1 (Nat.le_of_eq g10.symm))
  have s_b10 : h0.size ≤ b10 := Nat.le_trans K00.1 (Nat.le_of_eq g10.symm)
  have K10 := K00.ext E10
  have V10 : Arv Z h10 b10 c10 .byte (1 : Int32) [(.int 0)] (.int 0) := (Arv.new A10 (by decide)).pad (pad_rep [] (.int 0) 1)
  have lt_b10 := V10.lt
  have ne11 : ¬ (t0 = b10) := (Nat.ne_of_lt (Nat.lt_of_lt_of_le P0.lt (Nat.le_of_eq g10.symm)))
  have f12 := (P0.ext E10)
  obtain ⟨_, _, ⟨T13, L13, k13, n13⟩, -, X13, ⟨Lc13, hQ13, l13, y13, z13⟩, st13⟩ := Jvm.LawKit.callS X10 hx (y := Lm) hown (mvT hZ (Da hw 21 rfl)) (mvT hZ (Da hw 22 rfl)) (mvT hZ (Da hw 18 rfl)) (mvT hZ (Da hw 23 rfl)) (by decide) (backOf (W := 0) (Mw l Z a0 hw [] t0 b10 k0 c10 c0 _ _ h10 n0 O10 hE f12 V10 g_b10 ne11) hZ (Da hw 23 rfl) (Da hw 18 rfl) (by decide) (by decide)) (g := (mkF m 9 #[.val (.ref t0), .val (.int 0), .val (.int 1), .val (.ref b10), .unset, .unset] [(.int 1), (.int 0), (.ref b10), (.int 0), (.ref t0)])) rfl (by rw [hml]; rfl) (argsL := [(.ref t0), (.int 0), (.ref b10), (.int 0), (.int 1)]) (rest := []) (lenOf Dn rfl) rfl (by show 2 * 0 + _ ≤ _; exact Nat.le_of_eq rfl) (hb hby Al) (fun _ _ => ⟨rfl, e10, (by decide : 1 + 0 ≤ _), (by decide : 1 + 0 ≤ _)⟩)
  dsimp only [Pt.U, Pt.locs, Pt.cells, Pt.slots] at X13 l13 y13 z13 st13 hQ13
  subst l13 y13 z13
  obtain ⟨kk13, vs13, rfl, N13q, O13, Kc13, F13_0, D13_0⟩ := hQ13
  have N13 := Fr.app N00 N13q
  have K13 := K10.trans Kc13 (allS (Or.inr s_b10) all0)
  have k14 : ∀ t, Ga p e below m T13 12 #[.val (.ref t0), .val (.int 0), .val (.int 1), .val (.ref b10), .unset, .unset] [(.int kk13)] t → Ra p e below m s₁ #[(.ref t0), (.int 0), (.int 1)] 6 t := by
    intro t k
    refine k00 t ?_
    refine XS.iloadN X00.here hx rfl (hb hby Mk) rfl ?_
    refine st10 _ ?_
    refine XS.astoreN X10.here hx rfl (hb hby Rk) rfl rfl (l' := #[.val (.ref t0), .val (.int 0), .val (.int 1), .val (.ref b10), .unset, .unset]) rfl ?_
    refine XS.aloadN X10.here hx rfl (hb hby Uk) rfl rfl ?_
    refine XS.iloadN X10.here hx rfl (hb hby Vk) rfl ?_
    refine XS.aloadN X10.here hx rfl (hb hby Wk) rfl rfl ?_
    refine XS.iconst X10.here hx rfl (hb hby Yk) ?_
    refine XS.iloadN X10.here hx rfl (hb hby Zk) rfl ?_
    show Ga p e below m T10 9 #[.val (.ref t0), .val (.int 0), .val (.int 1), .val (.ref b10), .unset, .unset] [(.int 1), (.int 0), (.ref b10), (.int 0), (.ref t0)] t
    refine st13 _ ?_
    exact k
  rcases D13_0 with hq | ⟨hq, hb15⟩
  · have k16 : ∀ t, Ga p e below m T13 12 #[.val (.ref t0), .val (.int 0), .val (.int 1), .val (.ref b10), .unset, .unset] [(.int 1)] t → Ra p e below m s₁ #[(.ref t0), (.int 0), (.int 1)] 6 t := by
      intro t k
      refine k14 t ?_
      rw [hq]
      exact k
    have k17 : ∀ t, Ga p e below m T13 58 #[.val (.ref t0), .val (.int 0), .val (.int 1), .val (.ref b10), .val (.int 1), .unset] [(.ref b10)] t → Ra p e below m s₁ #[(.ref t0), (.int 0), (.int 1)] 6 t := by
      intro t k
      refine k16 t ?_
      refine XS.istore X13.here hx rfl (hb hby Ab) rfl (l' := #[.val (.ref t0), .val (.int 0), .val (.int 1), .val (.ref b10), .val (.int 1), .unset]) rfl ?_
      refine XS.iload X13.here hx rfl (hb hby Bb) rfl ?_
      refine XS.iloadN X13.here hx rfl (hb hby Db) rfl ?_
      refine XS.icmpYes X13.here hx rfl (pc0 := 17) (pc' := 57) rfl (hb hby Gb) rfl (teq (by decide : (1 : Int32) = (1 : Int32))).1 (by decide) (by decide) ?_
      refine XS.aloadN X13.here hx rfl (hb hby Gj) rfl rfl ?_
      exact k
    obtain ⟨fs, hr, hrun, hended, hW, hsame⟩ := X13.leave (v := some (.ref b10)) (fun h => by rw [Bd.returns] at h; cases h)
    refine hNG ⟨_, _, k17 _ ?_, hrun, hended, _, _, rfl, ?_, ⟨_, rfl⟩, hW, hsame.mono (by decide) (by decide)⟩
    · exact retOut X13 hx (t := (.array .byte)) Bd.returns rfl (Or.inr (Or.inr (Or.inr (Or.inr ⟨rfl, rfl, rfl⟩)))) (hb hby Hj) hr
    · show Wp Z t0 k0 c0 Ba Aa h0 n0 _ T13.heap _
      exact ⟨b10, (1 : Int32), _, _, rfl, N13, O13, K13, g_b10, s_b10, F13_0, Or.inl rfl⟩
  · have k18 : ∀ t, Ga p e below m T13 12 #[.val (.ref t0), .val (.int 0), .val (.int 1), .val (.ref b10), .unset, .unset] [(.int 0)] t → Ra p e below m s₁ #[(.ref t0), (.int 0), (.int 1)] 6 t := by
      intro t k
      refine k14 t ?_
      rw [hq]
      exact k
    have f19 := (f12.keep Kc13 (fun q => ne11 (List.mem_singleton.mp q)))
    obtain ⟨_, _, ⟨T20, L20, k20, n20⟩, -, X20, ⟨Lc20, hQ20, l20, y20, z20⟩, st20⟩ := Jvm.LawKit.callS X13 hx (y := Am) hown (mvT hZ (Da hw 47 rfl)) (mvT hZ (Da hw 48 rfl)) (mvT hZ (Da hw 18 rfl)) (mvT hZ (Da hw 49 rfl)) (by decide) (backOf (W := 0) (Vw l Z a0 hw [] t0 k0 c0 _ _ T13.heap n0 O13 hE f19 ) hZ (Da hw 49 rfl) (Da hw 18 rfl) (by decide) (by decide)) (g := (mkF m 23 #[.val (.ref t0), .val (.int 0), .val (.int 1), .val (.ref b10), .val (.int 0), .unset] [(.int 1), (.int 0), (.ref t0)])) rfl (by rw [hml]; rfl) (argsL := [(.ref t0), (.int 0), (.int 1)]) (rest := []) (lenOf Ii rfl) rfl (by show 2 * 0 + _ ≤ _; exact Nat.le_of_eq rfl) (hb hby Kd) (fun _ _ => ⟨rfl, rfl, (by decide : 1 + 1 ≤ _), (by decide : 1 + 2 ≤ _)⟩)
    dsimp only [Pt.U, Pt.locs, Pt.cells, Pt.slots] at X20 l20 y20 z20 st20 hQ20
    subst l20 y20 z20
    obtain ⟨b20, k20, rfl, N20q, O20, Kc20, g_b20, gs_b20, F20_0⟩ := hQ20
    have N20 := Fr.app N13 N20q
    have K20 := K13.trans Kc20 (fun x hx => nomatch hx)
    have s_b20 := Nat.le_trans K13.1 gs_b20
    have lt_b20 := F20_0.lt
    obtain ⟨_, _, ⟨T21, L21, k21, n21⟩, -, X21, ⟨Lc21, hQ21, l21, y21, z21⟩, st21⟩ := Jvm.LawKit.callS X20 hx (y := Hi) hown (mvT hZ (Da hw 63 rfl)) (mvT hZ (Da hw 64 rfl)) (mvT hZ (Da hw 18 rfl)) (mvT hZ (Da hw 65 rfl)) (by decide) (backOf (W := 0) (Bt l Z a0 hw [] b20 k20 ((c0 >>> ((0 : Int32) &&& 31)).toInt8.toInt32) ((c0 >>> ((8 : Int32) &&& 31)).toInt8.toInt32) _ _ T20.heap n0 O20 hE F20_0 ) hZ (Da hw 65 rfl) (Da hw 18 rfl) (by decide) (by decide)) (g := (mkF m 32 #[.val (.ref t0), .val (.int 0), .val (.int 1), .val (.ref b10), .val (.int 0), .val (.ref b20)] [(.int 0), (.ref b20)])) rfl (by rw [hml]; rfl) (argsL := [(.ref b20), (.int 0)]) (rest := []) (lenOf Gm rfl) rfl (by show 2 * 0 + _ ≤ _; exact Nat.le_of_eq rfl) (hb hby Rd) (fun _ _ => ⟨rfl, rfl, (by decide : 2 + 0 ≤ _), (by decide : 3 + 0 ≤ _)⟩)
    dsimp only [Pt.U, Pt.locs, Pt.cells, Pt.slots] at X21 l21 y21 z21 st21 hQ21
    subst l21 y21 z21
    obtain ⟨rfl, N21q, hp21⟩ := hQ21
    have N21 := Fr.app N20 N21q
    have k22 : ∀ t, Ga p e below m T21 56 #[.val (.ref t0), .val (.int 0), .val (.int 1), .val (.ref b10), .val (.int 0), .val (.ref b20)] [(.ref b20)] t → Ra p e below m s₁ #[(.ref t0), (.int 0), (.int 1)] 6 t := by
      intro t k
      refine k18 t ?_
      refine XS.istore X13.here hx rfl (hb hby Ab) rfl (l' := #[.val (.ref t0), .val (.int 0), .val (.int 1), .val (.ref b10), .val (.int 0), .unset]) rfl ?_
      refine XS.iload X13.here hx rfl (hb hby Bb) rfl ?_
      refine XS.iloadN X13.here hx rfl (hb hby Db) rfl ?_
      refine XS.icmpNo X13.here hx rfl (hb hby Gb) rfl (feq (by decide : ¬ ((0 : Int32) = (1 : Int32)))).1 ?_
      refine XS.aloadN X13.here hx rfl (hb hby Gd) rfl rfl ?_
      refine XS.iloadN X13.here hx rfl (hb hby Hd) rfl ?_
      refine XS.iloadN X13.here hx rfl (hb hby Id) rfl ?_
      refine st20 _ ?_
      show Ga p e below m T20 26 #[.val (.ref t0), .val (.int 0), .val (.int 1), .val (.ref b10), .val (.int 0), .unset] [(.ref b20)] t
      refine XS.astore X20.here hx rfl (hb hby Ld) rfl rfl (l' := #[.val (.ref t0), .val (.int 0), .val (.int 1), .val (.ref b10), .val (.int 0), .val (.ref b20)]) rfl ?_
      refine XS.aload X20.here hx rfl (hb hby Md) rfl rfl ?_
      refine XS.iload X20.here hx rfl (hb hby Pd) rfl ?_
      refine st21 _ ?_
      refine XS.sipush X21.here hx rfl (hb hby Ud) ?_
      refine XS.icmpYes X21.here hx rfl (pc0 := 38) (pc' := 54) rfl (hb hby Vd) rfl (tlt (by rw [Hm lo0 hi0]; exact hb15)).2.2.1 (by decide) (by decide) ?_
      refine XS.aload X21.here hx rfl (hb hby Wd) rfl rfl ?_
      exact k
    obtain ⟨fs, hr, hrun, hended, hW, hsame⟩ := X21.leave (v := some (.ref b20)) (fun h => by rw [Bd.returns] at h; cases h)
    refine hNG ⟨_, _, k22 _ ?_, hrun, hended, _, _, rfl, ?_, ⟨_, rfl⟩, hW, hsame.mono (by decide) (by decide)⟩
    · exact retOut X21 hx (t := (.array .byte)) Bd.returns rfl (Or.inr (Or.inr (Or.inr (Or.inr ⟨rfl, rfl, rfl⟩)))) (hb hby Yd) hr
    · show Wp Z t0 k0 c0 Ba Aa h0 n0 _ T21.heap _
      rw [hp21]
      exact ⟨b20, (2 : Int32), _, _, rfl, N21, O20, K20, g_b20, s_b20, F20_0, Or.inr rfl⟩
theorem Dt (m : MethodId) (x0 : Addr) (x1 : Int32)  : entryFrame m #[(.ref x0), (.int x1)] 2 = mkF m 0 #[.val (.ref x0), .val (.int x1)] [] := by first | (simp [entryFrame, mkF, argsToLocals, Value.category]; done) | rfl
theorem Mh : decode jdk_52_method_15_code 0 = .ok (.iload_n 1, 1) := by decide +kernel
theorem Ph : decode jdk_52_method_15_code 1 = .ok (.aload_n 0, 1) := by decide +kernel
theorem Rh : decode jdk_52_method_15_code 2 = .ok (.arraylength, 1) := by decide +kernel
theorem Uh : decode jdk_52_method_15_code 3 = .ok (.isub, 1) := by decide +kernel
theorem Vh : decode jdk_52_method_15_code 4 = .ok (.bipush 31, 2) := by decide +kernel
theorem Wh : decode jdk_52_method_15_code 6 = .ok (.iushr, 1) := by decide +kernel
theorem Yh : decode jdk_52_method_15_code 7 = .ok (.i2b, 1) := by decide +kernel
theorem Zh : decode jdk_52_method_15_code 8 = .ok (.ireturn, 1) := by decide +kernel
abbrev Ki : MethodName := ⟨"java/lang/StringUTF16", "coderFromArrayLen", "([BI)B"⟩
def Kq (Z : State) (q0 : Addr) (k0 : ClassId) (vs : List Value) (Ba : Int32) (Aa : Value) (h0 : Heap) (n0 : Nat) (v : Option Value) (h : Heap) (L : List Loc) : Prop := v = some (.int 0) ∧ Fr n0 L ∧ h = h0
set_option maxRecDepth 65536 in
set_option maxHeartbeats 40000000 in
theorem Gt (l : Launch) (Z : State) (a0 : Array Value) (hw : ∀ d ∈ tables_1, d.before a0 Z = true) (ws : List Jvm.Cond) (q0 : Addr) (k0 : ClassId) (vs : List Value) (Ba : Int32) (Aa : Value) (h0 : Heap) (n0 : Nat) (O0 : Old Z n0 h0) (hE : EV Z Ba Aa) (P0 : Arv Z h0 q0 k0 .byte (1 : Int32) vs (.int 0)) :
    MetFree l Ki (head1 (Jvm.Cond.code Ki jdk_52_method_15_code 2 (some .byte) :: ws) ({ frames := 0, cells := 0, slots := 0, locals := 0 } : Room)) (fun a U => a = #[(.ref q0), (.int 1)] ∧ Z.Warmed39 U.vm ∧ U.heap = h0) (fun _ _ _ _ _ => True) (fun _ U o U' => ∃ v L, o = .returned v ∧ Kq Z q0 k0 vs Ba Aa h0 n0 v U'.heap L ∧ FrameEnd U o U' L ({ frames := 0, cells := 0, slots := 0, locals := 0 } : Room).cells ({ frames := 0, cells := 0, slots := 0, locals := 0 } : Room).slots) := by
  refine MetFree.of_bodySF (plainFor_of_name Pa) hisR ?_
  intro p e s m args below meth c s₁ Bd hml0 hP hK
  obtain ⟨rfl, hZ, hh⟩ := hP
  have hx := Bd.exec
  have hby := Bd.bytes
  have hml : c.maxLocals = 2 := hml0
  have hown : s.vm.findClass "java/lang/StringUTF16" = some m.cls := findClass_of_methodNamed Bd.named
  have hnm := (name_of_methodNamed Bd.named Bd.method).1
  have X00 : Stand p l e ({ frames := 0, cells := 0, slots := 0, locals := 0 } : Room) s m #[(.ref q0), (.int 1)] below meth c s₁ [] 0 0 := Stand.of_body Bd
  have e00 : s₁.heap = h0 := by rw [← hh, Bd.state]; rfl
  have N00 := Fr.nil n0
  refine Classical.byContradiction fun hNG => ?_
  have K00 := Keep.refl h0 []
  have k00 : ∀ t, Ga p e below m s₁ 0 #[.val (.ref q0), .val (.int 1)] [] t → Ra p e below m s₁ #[(.ref q0), (.int 1)] 2 t := fun t k => castTop (Dt m q0 ((1 : Int32)) ) k
  obtain ⟨Ua, La, Va, Ma, Ha, Ia, Ka⟩ := (id hE : EV Z Ba Aa)
  obtain ⟨cl10, Ar10, q10, Sz10, Nn10, Hs10, Gf10⟩ := id P0
  have k11 : ∀ t, Ga p e below m s₁ 8 #[.val (.ref q0), .val (.int 1)] [(.int 0)] t → Ra p e below m s₁ #[(.ref q0), (.int 1)] 2 t := by
    intro t k
    refine k00 t ?_
    refine XS.iloadN X00.here hx rfl (hb hby Mh) rfl ?_
    refine XS.aloadN X00.here hx rfl (hb hby Ph) rfl rfl ?_
    refine X00.arraylength hx (by rw [e00]; exact Ar10.1) (State.isArrayOf_alike hZ.alike Ar10.2.1) (g := (mkF m 2 #[.val (.ref q0), .val (.int 1)] [(.ref q0), (.int 1)])) rfl rfl (hb hby Rh) _ ?_
    rw [len_of Sz10 Nn10]
    refine XS.isub X00.here hx rfl (hb hby Uh) rfl ?_
    show Ga p e below m s₁ 4 #[.val (.ref q0), .val (.int 1)] [(.int ((1 : Int32) - (1 : Int32)))] t
    rw [show ((1 : Int32) - (1 : Int32)) = (0 : Int32) from by decide]
    refine XS.bipush X00.here hx rfl (hb hby Vh) ?_
    refine XS.iushr X00.here hx rfl (hb hby Wh) rfl ?_
    show Ga p e below m s₁ 7 #[.val (.ref q0), .val (.int 1)] [(.int (((0 : Int32).toUInt32 >>> ((31 : Int32) &&& 31).toUInt32).toInt32))] t
    rw [show (((0 : Int32).toUInt32 >>> ((31 : Int32) &&& 31).toUInt32).toInt32) = (0 : Int32) from by decide]
    show Ga p e below m s₁ 7 #[.val (.ref q0), .val (.int 1)] [(.int 0)] t
    refine XS.i2b X00.here hx rfl (hb hby Yh) rfl ?_
    show Ga p e below m s₁ 8 #[.val (.ref q0), .val (.int 1)] [(.int ((0 : Int32).toInt8.toInt32))] t
    rw [show ((0 : Int32).toInt8.toInt32) = (0 : Int32) from by decide]
    exact k
  obtain ⟨fs, hr, hrun, hended, hW, hsame⟩ := X00.leave (v := some (.int 0)) (fun h => by rw [Bd.returns] at h; cases h)
  refine hNG ⟨_, _, k11 _ ?_, hrun, hended, _, _, rfl, ?_, ⟨_, rfl⟩, hW, hsame.mono (by decide) (by decide)⟩
  · exact retN X00 hx (t := .byte) Bd.returns (by simp) (hb hby Zh) (by first | exact hr | (rw [show nar .byte (0 : Int32) = (0 : Int32) from by first | rfl | exact Wi _ | decide]; exact hr))
  · show Kq Z q0 k0 vs Ba Aa h0 n0 _ s₁.heap _
    rw [e00]
    exact ⟨rfl, N00, rfl⟩
theorem Ht (m : MethodId) (x0 : Addr) (x1 : Int32)  : entryFrame m #[(.ref x0), (.int x1)] 2 = mkF m 0 #[.val (.ref x0), .val (.int x1)] [] := by first | (simp [entryFrame, mkF, argsToLocals, Value.category]; done) | rfl
def Lq (Z : State) (q0 : Addr) (k0 : ClassId) (vs : List Value) (Ba : Int32) (Aa : Value) (h0 : Heap) (n0 : Nat) (v : Option Value) (h : Heap) (L : List Loc) : Prop := v = some (.int 1) ∧ Fr n0 L ∧ h = h0
set_option maxRecDepth 65536 in
set_option maxHeartbeats 40000000 in
theorem It (l : Launch) (Z : State) (a0 : Array Value) (hw : ∀ d ∈ tables_1, d.before a0 Z = true) (ws : List Jvm.Cond) (q0 : Addr) (k0 : ClassId) (vs : List Value) (Ba : Int32) (Aa : Value) (h0 : Heap) (n0 : Nat) (O0 : Old Z n0 h0) (hE : EV Z Ba Aa) (P0 : Arv Z h0 q0 k0 .byte (2 : Int32) vs (.int 0)) :
    MetFree l Ki (head1 (Jvm.Cond.code Ki jdk_52_method_15_code 2 (some .byte) :: ws) ({ frames := 0, cells := 0, slots := 0, locals := 0 } : Room)) (fun a U => a = #[(.ref q0), (.int 1)] ∧ Z.Warmed39 U.vm ∧ U.heap = h0) (fun _ _ _ _ _ => True) (fun _ U o U' => ∃ v L, o = .returned v ∧ Lq Z q0 k0 vs Ba Aa h0 n0 v U'.heap L ∧ FrameEnd U o U' L ({ frames := 0, cells := 0, slots := 0, locals := 0 } : Room).cells ({ frames := 0, cells := 0, slots := 0, locals := 0 } : Room).slots) := by
  refine MetFree.of_bodySF (plainFor_of_name Pa) hisR ?_
  intro p e s m args below meth c s₁ Bd hml0 hP hK
  obtain ⟨rfl, hZ, hh⟩ := hP
  have hx := Bd.exec
  have hby := Bd.bytes
  have hml : c.maxLocals = 2 := hml0
  have hown : s.vm.findClass "java/lang/StringUTF16" = some m.cls := findClass_of_methodNamed Bd.named
  have hnm := (name_of_methodNamed Bd.named Bd.method).1
  have X00 : Stand p l e ({ frames := 0, cells := 0, slots := 0, locals := 0 } : Room) s m #[(.ref q0), (.int 1)] below meth c s₁ [] 0 0 := Stand.of_body Bd
  have e00 : s₁.heap = h0 := by rw [← hh, Bd.state]; rfl
  have N00 := Fr.nil n0
  refine Classical.byContradiction fun hNG => ?_
  have K00 := Keep.refl h0 []
  have k00 : ∀ t, Ga p e below m s₁ 0 #[.val (.ref q0), .val (.int 1)] [] t → Ra p e below m s₁ #[(.ref q0), (.int 1)] 2 t := fun t k => castTop (Ht m q0 ((1 : Int32)) ) k
  obtain ⟨Ua, La, Va, Ma, Ha, Ia, Ka⟩ := (id hE : EV Z Ba Aa)
  obtain ⟨cl10, Ar10, q10, Sz10, Nn10, Hs10, Gf10⟩ := id P0
  have k11 : ∀ t, Ga p e below m s₁ 8 #[.val (.ref q0), .val (.int 1)] [(.int 1)] t → Ra p e below m s₁ #[(.ref q0), (.int 1)] 2 t := by
    intro t k
    refine k00 t ?_
    refine XS.iloadN X00.here hx rfl (hb hby Mh) rfl ?_
    refine XS.aloadN X00.here hx rfl (hb hby Ph) rfl rfl ?_
    refine X00.arraylength hx (by rw [e00]; exact Ar10.1) (State.isArrayOf_alike hZ.alike Ar10.2.1) (g := (mkF m 2 #[.val (.ref q0), .val (.int 1)] [(.ref q0), (.int 1)])) rfl rfl (hb hby Rh) _ ?_
    rw [len_of Sz10 Nn10]
    refine XS.isub X00.here hx rfl (hb hby Uh) rfl ?_
    show Ga p e below m s₁ 4 #[.val (.ref q0), .val (.int 1)] [(.int ((1 : Int32) - (2 : Int32)))] t
    rw [show ((1 : Int32) - (2 : Int32)) = (-1 : Int32) from by decide]
    refine XS.bipush X00.here hx rfl (hb hby Vh) ?_
    refine XS.iushr X00.here hx rfl (hb hby Wh) rfl ?_
    show Ga p e below m s₁ 7 #[.val (.ref q0), .val (.int 1)] [(.int (((-1 : Int32).toUInt32 >>> ((31 : Int32) &&& 31).toUInt32).toInt32))] t
    rw [show (((-1 : Int32).toUInt32 >>> ((31 : Int32) &&& 31).toUInt32).toInt32) = (1 : Int32) from by decide]
    show Ga p e below m s₁ 7 #[.val (.ref q0), .val (.int 1)] [(.int 1)] t
    refine XS.i2b X00.here hx rfl (hb hby Yh) rfl ?_
    show Ga p e below m s₁ 8 #[.val (.ref q0), .val (.int 1)] [(.int ((1 : Int32).toInt8.toInt32))] t
    rw [show ((1 : Int32).toInt8.toInt32) = (1 : Int32) from by decide]
    exact k
  obtain ⟨fs, hr, hrun, hended, hW, hsame⟩ := X00.leave (v := some (.int 1)) (fun h => by rw [Bd.returns] at h; cases h)
  refine hNG ⟨_, _, k11 _ ?_, hrun, hended, _, _, rfl, ?_, ⟨_, rfl⟩, hW, hsame.mono (by decide) (by decide)⟩
  · exact retN X00 hx (t := .byte) Bd.returns (by simp) (hb hby Zh) (by first | exact hr | (rw [show nar .byte (1 : Int32) = (1 : Int32) from by first | rfl | exact Wi _ | decide]; exact hr))
  · show Lq Z q0 k0 vs Ba Aa h0 n0 _ s₁.heap _
    rw [e00]
    exact ⟨rfl, N00, rfl⟩
theorem Zw (m : MethodId) (x0 : Addr) (x1 : Addr) (x2 : Int32) (x3 : Int32)  : entryFrame m #[(.ref x0), (.ref x1), (.int x2), (.int x3), .null] 6 = mkF m 0 #[.val (.ref x0), .val (.ref x1), .val (.int x2), .val (.int x3), .val .null, .unset] [] := by first | (simp [entryFrame, mkF, argsToLocals, Value.category]; done) | rfl
theorem Ij : decode jdk_42_method_149_code 0 = .ok (.aload_n 0, 1) := by decide +kernel
theorem Kj : decode jdk_42_method_149_code 1 = .ok (.invokespecial 1, 3) := by decide +kernel
theorem Lj : decode jdk_42_method_149_code 4 = .ok (.iload_n 3, 1) := by decide +kernel
theorem Mj : decode jdk_42_method_149_code 5 = .ok (.ifCond .ne 22, 3) := by decide +kernel
theorem Li : decode jdk_42_method_149_code 27 = .ok (.getstatic 38, 3) := by decide +kernel
theorem Mi : decode jdk_42_method_149_code 30 = .ok (.ifCond .eq 28, 3) := by decide +kernel
theorem Pi : decode jdk_42_method_149_code 33 = .ok (.aload_n 1, 1) := by decide +kernel
theorem Ri : decode jdk_42_method_149_code 34 = .ok (.iload_n 2, 1) := by decide +kernel
theorem Ui : decode jdk_42_method_149_code 35 = .ok (.iload_n 3, 1) := by decide +kernel
theorem Vi : decode jdk_42_method_149_code 36 = .ok (.invokestatic 177, 3) := by decide +kernel
theorem Yg : decode jdk_42_method_149_code 39 = .ok (.astore 5, 2) := by decide +kernel
theorem Zg : decode jdk_42_method_149_code 41 = .ok (.aload_n 0, 1) := by decide +kernel
theorem Ah : decode jdk_42_method_149_code 42 = .ok (.aload 5, 2) := by decide +kernel
theorem Bh : decode jdk_42_method_149_code 44 = .ok (.iload_n 3, 1) := by decide +kernel
theorem Dh : decode jdk_42_method_149_code 45 = .ok (.invokestatic 47, 3) := by decide +kernel
theorem Im : parseMethodDescriptor "([BI)B" = some ⟨[(.array .byte), .int], some .byte⟩ := by decide +kernel
theorem Gh : decode jdk_42_method_149_code 48 = .ok (.putfield 15, 3) := by decide +kernel
theorem Hh : decode jdk_42_method_149_code 51 = .ok (.aload_n 0, 1) := by decide +kernel
theorem Ih : decode jdk_42_method_149_code 52 = .ok (.aload 5, 2) := by decide +kernel
theorem Kh : decode jdk_42_method_149_code 54 = .ok (.putfield 9, 3) := by decide +kernel
theorem Lh : decode jdk_42_method_149_code 57 = .ok (.return_, 1) := by decide +kernel
theorem Bi : plainName "java/lang/String" = true := by first | (simp [plainName, overriddenIn]; done) | decide +kernel
abbrev Um : MethodName := ⟨"java/lang/String", "<init>", "([CIILjava/lang/Void;)V"⟩
def Yp (Z : State) (a1 : Addr) (t0 : Addr) (k0 : ClassId) (c0 : Int32) (Ba : Int32) (Aa : Value) (h0 : Heap) (n0 : Nat) (v : Option Value) (h : Heap) (L : List Loc) : Prop := ∃ (b : Addr) (z : Int32) (k : ClassId) (vs : List Value), v = none ∧ Fr n0 L ∧ Old Z n0 h ∧ Keep h0 h [a1] ∧ n0 ≤ b ∧ h0.size ≤ b ∧ Exa Z h a1 "java/lang/String" ∧ Fld Z h a1 "java/lang/String" "value" "[B" (.ref b) ∧ Arv Z h b k .byte z vs (.int 0) ∧ (¬ (z = (0 : Int32)))
set_option maxRecDepth 65536 in
set_option maxHeartbeats 40000000 in
theorem Ax (l : Launch) (Z : State) (a0 : Array Value) (hw : ∀ d ∈ tables_1, d.before a0 Z = true) (ws : List Jvm.Cond) (a1 : Addr) (t0 : Addr) (k0 : ClassId) (c0 : Int32) (Ba : Int32) (Aa : Value) (h0 : Heap) (n0 : Nat) (O0 : Old Z n0 h0) (hE : EV Z Ba Aa) (P0 : Arv Z h0 t0 k0 .char (1 : Int32) [(.int c0)] (.int 0)) (P1 : Exa Z h0 a1 "java/lang/String") (P2 : Fld Z h0 a1 "java/lang/String" "value" "[B" .null) (P3 : Fld Z h0 a1 "java/lang/String" "coder" "B" (.int 0)) (g_a1 : n0 ≤ a1) (lo0 : ¬ c0 < 0) (hi0 : ¬ (65535 : Int32) < c0) :
    MetFree l Um (head1 (Jvm.Cond.code Um jdk_42_method_149_code 6 none :: ws) ({ frames := 4, cells := 2, slots := 3, locals := 57 } : Room)) (fun a U => a = #[(.ref a1), (.ref t0), (.int 0), (.int 1), .null] ∧ Z.Warmed39 U.vm ∧ U.heap = h0) (fun _ _ _ _ _ => True) (fun _ U o U' => ∃ v L, o = .returned v ∧ Yp Z a1 t0 k0 c0 Ba Aa h0 n0 v U'.heap L ∧ FrameEnd U o U' L ({ frames := 4, cells := 2, slots := 3, locals := 57 } : Room).cells ({ frames := 4, cells := 2, slots := 3, locals := 57 } : Room).slots) := by
  refine MetFree.of_bodySF (plainFor_of_name Bi) hisR ?_
  intro p e s m args below meth c s₁ Bd hml0 hP hK
  obtain ⟨rfl, hZ, hh⟩ := hP
  have hx := Bd.exec
  have hby := Bd.bytes
  have hml : c.maxLocals = 6 := hml0
  have hown : s.vm.findClass "java/lang/String" = some m.cls := findClass_of_methodNamed Bd.named
  have hnm := (name_of_methodNamed Bd.named Bd.method).1
  have X00 : Stand p l e ({ frames := 4, cells := 2, slots := 3, locals := 57 } : Room) s m #[(.ref a1), (.ref t0), (.int 0), (.int 1), .null] below meth c s₁ [] 0 0 := Stand.of_body Bd
  have e00 : s₁.heap = h0 := by rw [← hh, Bd.state]; rfl
  have N00 := Fr.nil n0
  refine Classical.byContradiction fun hNG => ?_
  have K00 := Keep.refl h0 [a1]
  have k00 : ∀ t, Ga p e below m s₁ 0 #[.val (.ref a1), .val (.ref t0), .val (.int 0), .val (.int 1), .val .null, .unset] [] t → Ra p e below m s₁ #[(.ref a1), (.ref t0), (.int 0), (.int 1), .null] 6 t := fun t k => castTop (Zw m a1 t0 ((0 : Int32)) ((1 : Int32)) ) k
  obtain ⟨Ua, La, Va, Ma, Ha, Ia, Ka⟩ := (id hE : EV Z Ba Aa)
  obtain ⟨T10, X10, e10, st10⟩ := initO X00 hx hZ hown (Da hw 12 rfl) (Da hw 13 rfl) (Da hw 14 rfl) e00 (g := (mkF m 1 #[.val (.ref a1), .val (.ref t0), .val (.int 0), .val (.int 1), .val .null, .unset] [(.ref a1)])) rfl (by rw [hml]; rfl) rfl (hb hby Kj) (by decide) (W := 0) (by show 2 * 0 + _ ≤ _; exact Nat.le_of_eq rfl) (by decide)
  obtain ⟨T11, X11, e11, st11⟩ := getS2 X10 hx hZ hown (host := "") (Or.inl (Da hw 15 rfl)) Via.refl e10 (Ua.ext O0.2) (g := (mkF m 27 #[.val (.ref a1), .val (.ref t0), .val (.int 0), .val (.int 1), .val .null, .unset] [])) rfl (hb hby Li)
  obtain ⟨_, _, ⟨T12, L12, k12, n12⟩, -, X12, ⟨Lc12, hQ12, l12, y12, z12⟩, st12⟩ := Jvm.LawKit.callS X11 hx (y := Rm) hown (mvT hZ (Da hw 16 rfl)) (mvT hZ (Da hw 17 rfl)) (mvT hZ (Da hw 18 rfl)) (mvT hZ (Da hw 19 rfl)) (by decide) (backOf (W := 0) (Yw l Z a0 hw [] t0 k0 c0 _ _ h0 n0 O0 hE P0 lo0 hi0) hZ (Da hw 19 rfl) (Da hw 18 rfl) (by decide) (by decide)) (g := (mkF m 36 #[.val (.ref a1), .val (.ref t0), .val (.int 0), .val (.int 1), .val .null, .unset] [(.int 1), (.int 0), (.ref t0)])) rfl (by rw [hml]; rfl) (argsL := [(.ref t0), (.int 0), (.int 1)]) (rest := []) (lenOf Ii rfl) rfl (by show 2 * 0 + _ ≤ _; exact Nat.le_of_eq rfl) (hb hby Vi) (fun _ _ => ⟨rfl, e11, (by decide : 0 + 2 ≤ _), (by decide : 0 + 3 ≤ _)⟩)
  dsimp only [Pt.U, Pt.locs, Pt.cells, Pt.slots] at X12 l12 y12 z12 st12 hQ12
  subst l12 y12 z12
  obtain ⟨b12, z12, k12, vs12, rfl, N12q, O12, Kc12, g_b12, gs_b12, F12_0, D12_0⟩ := hQ12
  have N12 := Fr.app N00 N12q
  have K12 := K00.trans Kc12 (fun x hx => nomatch hx)
  have s_b12 := Nat.le_trans K00.1 gs_b12
  have lt_b12 := F12_0.lt
  have k13 : ∀ t, Ga p e below m T12 39 #[.val (.ref a1), .val (.ref t0), .val (.int 0), .val (.int 1), .val .null, .unset] [(.ref b12)] t → Ra p e below m s₁ #[(.ref a1), (.ref t0), (.int 0), (.int 1), .null] 6 t := by
    intro t k
    refine k00 t ?_
    refine XS.aloadN X00.here hx rfl (hb hby Ij) rfl rfl ?_
    refine st10 _ ?_
    refine XS.iloadN X10.here hx rfl (hb hby Lj) rfl ?_
    refine XS.ifYes X10.here hx rfl (pc0 := 5) (pc' := 27) rfl (hb hby Mj) rfl ((if0 _ _).trans (feq (by decide : ¬ ((1 : Int32) = (0 : Int32)))).2) (by decide) (by decide) ?_
    refine st11 _ ?_
    refine XS.ifNo X11.here hx rfl (hb hby Mi) rfl ((if0 _ _).trans (feq La).1) ?_
    refine XS.aloadN X11.here hx rfl (hb hby Pi) rfl rfl ?_
    refine XS.iloadN X11.here hx rfl (hb hby Ri) rfl ?_
    show Ga p e below m T11 35 #[.val (.ref a1), .val (.ref t0), .val (.int 0), .val (.int 1), .val .null, .unset] [(.int 0), (.ref t0)] t
    refine XS.iloadN X11.here hx rfl (hb hby Ui) rfl ?_
    refine st12 _ ?_
    exact k
  rcases D12_0 with hq | hq
  · subst hq
    obtain ⟨_, _, ⟨T14, L14, k14, n14⟩, -, X14, ⟨Lc14, hQ14, l14, y14, z14⟩, st14⟩ := Jvm.LawKit.callS X12 hx (y := Ki) hown (mvT hZ (Da hw 24 rfl)) (mvT hZ (Da hw 25 rfl)) (mvT hZ (Da hw 18 rfl)) (mvT hZ (Da hw 26 rfl)) (by decide) (backOf (W := 1) (Gt l Z a0 hw [] b12 k12 vs12 _ _ T12.heap n0 O12 hE F12_0 ) hZ (Da hw 26 rfl) (Da hw 18 rfl) (by decide) (by decide)) (g := (mkF m 45 #[.val (.ref a1), .val (.ref t0), .val (.int 0), .val (.int 1), .val .null, .val (.ref b12)] [(.int 1), (.ref b12), (.ref a1)])) rfl (by rw [hml]; rfl) (argsL := [(.ref b12), (.int 1)]) (rest := [(.ref a1)]) (lenOf Im rfl) rfl (by show 2 * 0 + _ ≤ _; exact Nat.le_of_eq rfl) (hb hby Dh) (fun _ _ => ⟨rfl, rfl, (by decide : 2 + 0 ≤ _), (by decide : 3 + 0 ≤ _)⟩)
    dsimp only [Pt.U, Pt.locs, Pt.cells, Pt.slots] at X14 l14 y14 z14 st14 hQ14
    subst l14 y14 z14
    obtain ⟨rfl, N14q, hp14⟩ := hQ14
    have N14 := Fr.app N12 N14q
    have f15 := (P1.keep Kc12)
    have f16 := (P3.keep Kc12 List.not_mem_nil)
    obtain ⟨T17, h17, X17, e17, W17, st17⟩ := putFN X14 hx hZ hown (Da hw 27 rfl) Via.refl hp14 f16 f15 (Or.inr ⟨(Da hw 28 rfl), rfl, hnm⟩) (Da hw 3 rfl) (ty := .byte) (v' := .int (0 : Int32)) (by decide) rfl (by decide) (g := (mkF m 48 #[.val (.ref a1), .val (.ref t0), .val (.int 0), .val (.int 1), .val .null, .val (.ref b12)] [(.int 0), (.ref a1)])) rfl rfl (hb hby Gh)
    have F17_coder := f16.same W17
    have N17 := Fr.snoc X17 N14 g_a1
    have O17 := O12.wr W17 g_a1
    have K17 := K12.wr W17 (Or.inl (List.mem_of_getElem? (i := 0) rfl))
    have f18 := (f15.wr W17)
    have f19 := ((P2.keep Kc12 List.not_mem_nil).other W17 (Or.inr (slot_ne (Or.inr (Da hw 30 rfl)) (Or.inr (Da hw 28 rfl)) (by decide) (t := (.array .byte)) (t' := .byte) (by decide) (by decide))))
    obtain ⟨T20, h20, X20, e20, W20, st20⟩ := putF X17 hx hZ hown (host := "") (Or.inl (Da hw 29 rfl)) Via.refl e17 f19 f18 (Or.inr ⟨(Da hw 30 rfl), rfl, hnm⟩) (Da hw 3 rfl) (ty := (.array .byte)) (by decide) rfl rfl (g := (mkF m 54 #[.val (.ref a1), .val (.ref t0), .val (.int 0), .val (.int 1), .val .null, .val (.ref b12)] [(.ref b12), (.ref a1)])) rfl rfl (hb hby Kh)
    have F20_value := f19.same W20
    have N20 := Fr.snoc X20 N17 g_a1
    have O20 := O17.wr W20 g_a1
    have K20 := K17.wr W20 (Or.inl (List.mem_of_getElem? (i := 0) rfl))
    have k21 : ∀ t, Ga p e below m T20 57 #[.val (.ref a1), .val (.ref t0), .val (.int 0), .val (.int 1), .val .null, .val (.ref b12)] [] t → Ra p e below m s₁ #[(.ref a1), (.ref t0), (.int 0), (.int 1), .null] 6 t := by
      intro t k
      refine k13 t ?_
      refine XS.astore X12.here hx rfl (hb hby Yg) rfl rfl (l' := #[.val (.ref a1), .val (.ref t0), .val (.int 0), .val (.int 1), .val .null, .val (.ref b12)]) rfl ?_
      refine XS.aloadN X12.here hx rfl (hb hby Zg) rfl rfl ?_
      refine XS.aload X12.here hx rfl (hb hby Ah) rfl rfl ?_
      refine XS.iloadN X12.here hx rfl (hb hby Bh) rfl ?_
      refine st14 _ ?_
      refine st17 _ ?_
      refine XS.aloadN X17.here hx rfl (hb hby Hh) rfl rfl ?_
      refine XS.aload X17.here hx rfl (hb hby Ih) rfl rfl ?_
      show Ga p e below m T17 54 #[.val (.ref a1), .val (.ref t0), .val (.int 0), .val (.int 1), .val .null, .val (.ref b12)] [(.ref b12), (.ref a1)] t
      refine st20 _ ?_
      exact k
    have f22 := (f18.wr W20)
    have ne23 : ¬ (b12 = a1) := (Ne.symm (Nat.ne_of_lt (Nat.lt_of_lt_of_le P1.lt gs_b12)))
    have f24 := ((F12_0.other W17 ne23).other W20 ne23)
    obtain ⟨fs, hr, hrun, hended, hW, hsame⟩ := X20.leave (v := none) (fun _ => rfl)
    refine hNG ⟨_, _, k21 _ ?_, hrun, hended, _, _, rfl, ?_, ⟨_, rfl⟩, hW, hsame.mono (by decide) (by decide)⟩
    · exact X20.returnOut hx Bd.returns (hb hby Lh) hr
    · show Yp Z a1 t0 k0 c0 Ba Aa h0 n0 _ T20.heap _
      rw [e20]
      exact ⟨b12, (1 : Int32), _, _, rfl, N20, O20, K20, g_b12, s_b12, f22, F20_value, f24, (by decide)⟩
  · subst hq
    obtain ⟨_, _, ⟨T25, L25, k25, n25⟩, -, X25, ⟨Lc25, hQ25, l25, y25, z25⟩, st25⟩ := Jvm.LawKit.callS X12 hx (y := Ki) hown (mvT hZ (Da hw 24 rfl)) (mvT hZ (Da hw 25 rfl)) (mvT hZ (Da hw 18 rfl)) (mvT hZ (Da hw 26 rfl)) (by decide) (backOf (W := 1) (It l Z a0 hw [] b12 k12 vs12 _ _ T12.heap n0 O12 hE F12_0 ) hZ (Da hw 26 rfl) (Da hw 18 rfl) (by decide) (by decide)) (g := (mkF m 45 #[.val (.ref a1), .val (.ref t0), .val (.int 0), .val (.int 1), .val .null, .val (.ref b12)] [(.int 1), (.ref b12), (.ref a1)])) rfl (by rw [hml]; rfl) (argsL := [(.ref b12), (.int 1)]) (rest := [(.ref a1)]) (lenOf Im rfl) rfl (by show 2 * 0 + _ ≤ _; exact Nat.le_of_eq rfl) (hb hby Dh) (fun _ _ => ⟨rfl, rfl, (by decide : 2 + 0 ≤ _), (by decide : 3 + 0 ≤ _)⟩)
    dsimp only [Pt.U, Pt.locs, Pt.cells, Pt.slots] at X25 l25 y25 z25 st25 hQ25
    subst l25 y25 z25
    obtain ⟨rfl, N25q, hp25⟩ := hQ25
    have N25 := Fr.app N12 N25q
    have f26 := (P1.keep Kc12)
    have f27 := (P3.keep Kc12 List.not_mem_nil)
    obtain ⟨T28, h28, X28, e28, W28, st28⟩ := putFN X25 hx hZ hown (Da hw 27 rfl) Via.refl hp25 f27 f26 (Or.inr ⟨(Da hw 28 rfl), rfl, hnm⟩) (Da hw 3 rfl) (ty := .byte) (v' := .int (1 : Int32)) (by decide) rfl (by decide) (g := (mkF m 48 #[.val (.ref a1), .val (.ref t0), .val (.int 0), .val (.int 1), .val .null, .val (.ref b12)] [(.int 1), (.ref a1)])) rfl rfl (hb hby Gh)
    have F28_coder := f27.same W28
    have N28 := Fr.snoc X28 N25 g_a1
    have O28 := O12.wr W28 g_a1
    have K28 := K12.wr W28 (Or.inl (List.mem_of_getElem? (i := 0) rfl))
    have f29 := (f26.wr W28)
    have f30 := ((P2.keep Kc12 List.not_mem_nil).other W28 (Or.inr (slot_ne (Or.inr (Da hw 30 rfl)) (Or.inr (Da hw 28 rfl)) (by decide) (t := (.array .byte)) (t' := .byte) (by decide) (by decide))))
    obtain ⟨T31, h31, X31, e31, W31, st31⟩ := putF X28 hx hZ hown (host := "") (Or.inl (Da hw 29 rfl)) Via.refl e28 f30 f29 (Or.inr ⟨(Da hw 30 rfl), rfl, hnm⟩) (Da hw 3 rfl) (ty := (.array .byte)) (by decide) rfl rfl (g := (mkF m 54 #[.val (.ref a1), .val (.ref t0), .val (.int 0), .val (.int 1), .val .null, .val (.ref b12)] [(.ref b12), (.ref a1)])) rfl rfl (hb hby Kh)
    have F31_value := f30.same W31
    have N31 := Fr.snoc X31 N28 g_a1
    have O31 := O28.wr W31 g_a1
    have K31 := K28.wr W31 (Or.inl (List.mem_of_getElem? (i := 0) rfl))
    have k32 : ∀ t, Ga p e below m T31 57 #[.val (.ref a1), .val (.ref t0), .val (.int 0), .val (.int 1), .val .null, .val (.ref b12)] [] t → Ra p e below m s₁ #[(.ref a1), (.ref t0), (.int 0), (.int 1), .null] 6 t := by
      intro t k
      refine k13 t ?_
      refine XS.astore X12.here hx rfl (hb hby Yg) rfl rfl (l' := #[.val (.ref a1), .val (.ref t0), .val (.int 0), .val (.int 1), .val .null, .val (.ref b12)]) rfl ?_
      refine XS.aloadN X12.here hx rfl (hb hby Zg) rfl rfl ?_
      refine XS.aload X12.here hx rfl (hb hby Ah) rfl rfl ?_
      refine XS.iloadN X12.here hx rfl (hb hby Bh) rfl ?_
      refine st25 _ ?_
      refine st28 _ ?_
      refine XS.aloadN X28.here hx rfl (hb hby Hh) rfl rfl ?_
      refine XS.aload X28.here hx rfl (hb hby Ih) rfl rfl ?_
      show Ga p e below m T28 54 #[.val (.ref a1), .val (.ref t0), .val (.int 0), .val (.int 1), .val .null, .val (.ref b12)] [(.ref b12), (.ref a1)] t
      refine st31 _ ?_
      exact k
    have f33 := (f29.wr W31)
    have ne34 : ¬ (b12 = a1) := (Ne.symm (Nat.ne_of_lt (Nat.lt_of_lt_of_le P1.lt gs_b12)))
    have f35 := ((F12_0.other W28 ne34).other W31 ne34)
    obtain ⟨fs, hr, hrun, hended, hW, hsame⟩ := X31.leave (v := none) (fun _ => rfl)
    refine hNG ⟨_, _, k32 _ ?_, hrun, hended, _, _, rfl, ?_, ⟨_, rfl⟩, hW, hsame.mono (by decide) (by decide)⟩
    · exact X31.returnOut hx Bd.returns (hb hby Lh) hr
    · show Yp Z a1 t0 k0 c0 Ba Aa h0 n0 _ T31.heap _
      rw [e31]
      exact ⟨b12, (2 : Int32), _, _, rfl, N31, O31, K31, g_b12, s_b12, f33, F31_value, f35, (by decide)⟩
theorem Bx (m : MethodId) (x0 : Addr) (x1 : Addr)  : entryFrame m #[(.ref x0), (.ref x1)] 2 = mkF m 0 #[.val (.ref x0), .val (.ref x1)] [] := by first | (simp [entryFrame, mkF, argsToLocals, Value.category]; done) | rfl
theorem Ll : decode jdk_42_method_3_code 0 = .ok (.aload_n 0, 1) := by decide +kernel
theorem Ml : decode jdk_42_method_3_code 1 = .ok (.aload_n 1, 1) := by decide +kernel
theorem Pl : decode jdk_42_method_3_code 2 = .ok (.iconst 0, 1) := by decide +kernel
theorem Rl : decode jdk_42_method_3_code 3 = .ok (.aload_n 1, 1) := by decide +kernel
theorem Ul : decode jdk_42_method_3_code 4 = .ok (.arraylength, 1) := by decide +kernel
theorem Vl : decode jdk_42_method_3_code 5 = .ok (.aconst_null, 1) := by decide +kernel
theorem Wl : decode jdk_42_method_3_code 6 = .ok (.invokespecial 27, 3) := by decide +kernel
theorem Pj : parseMethodDescriptor "([CIILjava/lang/Void;)V" = some ⟨[(.array .char), .int, .int, (.object "java/lang/Void")], none⟩ := by decide +kernel
theorem Yl : decode jdk_42_method_3_code 9 = .ok (.return_, 1) := by decide +kernel
abbrev Wm : MethodName := ⟨"java/lang/String", "<init>", "([C)V"⟩
def Gs (Z : State) (a1 : Addr) (t0 : Addr) (k0 : ClassId) (c0 : Int32) (Ba : Int32) (Aa : Value) (h0 : Heap) (n0 : Nat) (v : Option Value) (h : Heap) (L : List Loc) : Prop := ∃ (b : Addr) (z : Int32) (k : ClassId) (vs : List Value), v = none ∧ Fr n0 L ∧ Old Z n0 h ∧ Keep h0 h [a1] ∧ n0 ≤ b ∧ h0.size ≤ b ∧ Exa Z h a1 "java/lang/String" ∧ Fld Z h a1 "java/lang/String" "value" "[B" (.ref b) ∧ Arv Z h b k .byte z vs (.int 0) ∧ (¬ (z = (0 : Int32)))
set_option maxRecDepth 65536 in
set_option maxHeartbeats 40000000 in
theorem Dx (l : Launch) (Z : State) (a0 : Array Value) (hw : ∀ d ∈ tables_1, d.before a0 Z = true) (ws : List Jvm.Cond) (a1 : Addr) (t0 : Addr) (k0 : ClassId) (c0 : Int32) (Ba : Int32) (Aa : Value) (h0 : Heap) (n0 : Nat) (O0 : Old Z n0 h0) (hE : EV Z Ba Aa) (P0 : Arv Z h0 t0 k0 .char (1 : Int32) [(.int c0)] (.int 0)) (P1 : Exa Z h0 a1 "java/lang/String") (P2 : Fld Z h0 a1 "java/lang/String" "value" "[B" .null) (P3 : Fld Z h0 a1 "java/lang/String" "coder" "B" (.int 0)) (g_a1 : n0 ≤ a1) (lo0 : ¬ c0 < 0) (hi0 : ¬ (65535 : Int32) < c0) :
    MetFree l Wm (head1 (Jvm.Cond.code Wm jdk_42_method_3_code 2 none :: ws) ({ frames := 5, cells := 2, slots := 3, locals := 74 } : Room)) (fun a U => a = #[(.ref a1), (.ref t0)] ∧ Z.Warmed39 U.vm ∧ U.heap = h0) (fun _ _ _ _ _ => True) (fun _ U o U' => ∃ v L, o = .returned v ∧ Gs Z a1 t0 k0 c0 Ba Aa h0 n0 v U'.heap L ∧ FrameEnd U o U' L ({ frames := 5, cells := 2, slots := 3, locals := 74 } : Room).cells ({ frames := 5, cells := 2, slots := 3, locals := 74 } : Room).slots) := by
  refine MetFree.of_bodySF (plainFor_of_name Bi) hisR ?_
  intro p e s m args below meth c s₁ Bd hml0 hP hK
  obtain ⟨rfl, hZ, hh⟩ := hP
  have hx := Bd.exec
  have hby := Bd.bytes
  have hml : c.maxLocals = 2 := hml0
  have hown : s.vm.findClass "java/lang/String" = some m.cls := findClass_of_methodNamed Bd.named
  have hnm := (name_of_methodNamed Bd.named Bd.method).1
  have X00 : Stand p l e ({ frames := 5, cells := 2, slots := 3, locals := 74 } : Room) s m #[(.ref a1), (.ref t0)] below meth c s₁ [] 0 0 := Stand.of_body Bd
  have e00 : s₁.heap = h0 := by rw [← hh, Bd.state]; rfl
  have N00 := Fr.nil n0
  refine Classical.byContradiction fun hNG => ?_
  have K00 := Keep.refl h0 [a1]
  have k00 : ∀ t, Ga p e below m s₁ 0 #[.val (.ref a1), .val (.ref t0)] [] t → Ra p e below m s₁ #[(.ref a1), (.ref t0)] 2 t := fun t k => castTop (Bx m a1 t0 ) k
  obtain ⟨Ua, La, Va, Ma, Ha, Ia, Ka⟩ := (id hE : EV Z Ba Aa)
  obtain ⟨cl10, Ar10, q10, Sz10, Nn10, Hs10, Gf10⟩ := id P0
  obtain ⟨_, _, ⟨T11, L11, k11, n11⟩, -, X11, ⟨Lc11, hQ11, l11, y11, z11⟩, st11⟩ := X00.specialBack hx (y := Um) rfl hown (mvT hZ (Da hw 8 rfl)) (mvT hZ (Da hw 9 rfl)) (mvT hZ (Da hw 11 rfl)) (by decide) (backOf (W := 0) (Ax l Z a0 hw [] a1 t0 k0 c0 _ _ h0 n0 O0 hE P0 P1 P2 P3 g_a1 lo0 hi0) hZ (Da hw 11 rfl) (Da hw 4 rfl) (by decide) (by decide)) (g := (mkF m 6 #[.val (.ref a1), .val (.ref t0)] [.null, (.int 1), (.int 0), (.ref t0), (.ref a1)])) rfl (by rw [hml]; rfl) (Steps.refl _) (a := a1) (argsL := [(.ref t0), (.int 0), (.int 1), .null]) (rest := []) (lenOf Pj rfl) rfl (by show 2 * 0 + _ ≤ _; exact Nat.le_of_eq rfl) (hb hby Wl) (fun _ _ => ⟨rfl, e00, (by decide : 0 + 2 ≤ _), (by decide : 0 + 3 ≤ _)⟩)
  dsimp only [Pt.U, Pt.locs, Pt.cells, Pt.slots] at X11 l11 y11 z11 st11 hQ11
  subst l11 y11 z11
  obtain ⟨b11, z11, k11, vs11, rfl, N11q, O11, Kc11, g_b11, gs_b11, F11_0, F11_1, F11_2, D11_0⟩ := hQ11
  have N11 := Fr.app N00 N11q
  have K11 := K00.trans Kc11 (allS (Or.inl (List.mem_of_getElem? (i := 0) rfl)) all0)
  have s_b11 := Nat.le_trans K00.1 gs_b11
  have lt_b11 := F11_2.lt
  have k12 : ∀ t, Ga p e below m T11 9 #[.val (.ref a1), .val (.ref t0)] [] t → Ra p e below m s₁ #[(.ref a1), (.ref t0)] 2 t := by
    intro t k
    refine k00 t ?_
    refine XS.aloadN X00.here hx rfl (hb hby Ll) rfl rfl ?_
    refine XS.aloadN X00.here hx rfl (hb hby Ml) rfl rfl ?_
    refine XS.iconst X00.here hx rfl (hb hby Pl) ?_
    refine XS.aloadN X00.here hx rfl (hb hby Rl) rfl rfl ?_
    refine X00.arraylength hx (by rw [e00]; exact Ar10.1) (State.isArrayOf_alike hZ.alike Ar10.2.1) (g := (mkF m 4 #[.val (.ref a1), .val (.ref t0)] [(.ref t0), (.int 0), (.ref t0), (.ref a1)])) rfl rfl (hb hby Ul) _ ?_
    rw [len_of Sz10 Nn10]
    refine XS.aconstNull X00.here hx rfl (hb hby Vl) ?_
    refine st11.trans ?_
    exact k
  obtain ⟨fs, hr, hrun, hended, hW, hsame⟩ := X11.leave (v := none) (fun _ => rfl)
  refine hNG ⟨_, _, k12 _ ?_, hrun, hended, _, _, rfl, ?_, ⟨_, rfl⟩, hW, hsame.mono (by decide) (by decide)⟩
  · exact X11.returnOut hx Bd.returns (hb hby Yl) hr
  · show Gs Z a1 t0 k0 c0 Ba Aa h0 n0 _ T11.heap _
    exact ⟨b11, z11, _, _, rfl, N11, O11, K11, g_b11, s_b11, F11_0, F11_1, F11_2, D11_0⟩
theorem Gx (m : MethodId) (x0 : Addr) (x1 : Int32) (x2 : Addr) (x3 : Int32) (x4 : Int32)  : entryFrame m #[(.ref x0), (.int x1), (.ref x2), (.int x3), (.int x4)] 7 = mkF m 0 #[.val (.ref x0), .val (.int x1), .val (.ref x2), .val (.int x3), .val (.int x4), .unset, .unset] [] := by first | (simp [entryFrame, mkF, argsToLocals, Value.category]; done) | rfl
def Lp (Z : State) (t0 : Addr) (t1 : Addr) (k0 : ClassId) (k1 : ClassId) (c0 : Int32) (c1 : Int32) (Ba : Int32) (Aa : Value) (h0 : Heap) (n0 : Nat) (v : Option Value) (h : Heap) (L : List Loc) : Prop := ∃ (kk : Int32) (vs : List Value), v = some (.int kk) ∧ Fr n0 L ∧ Old Z n0 h ∧ Keep h0 h [t1] ∧ Arv Z h t1 k1 .byte (2 : Int32) vs (.int 0) ∧ (kk = (2 : Int32) ∨ (kk = (0 : Int32) ∧ (255 : Int32) < c0) ∨ (kk = (1 : Int32) ∧ (255 : Int32) < c1))
set_option maxRecDepth 65536 in
set_option maxHeartbeats 40000000 in
theorem Hx (l : Launch) (Z : State) (a0 : Array Value) (hw : ∀ d ∈ tables_1, d.before a0 Z = true) (ws : List Jvm.Cond) (t0 : Addr) (t1 : Addr) (k0 : ClassId) (k1 : ClassId) (c0 : Int32) (c1 : Int32) (Ba : Int32) (Aa : Value) (h0 : Heap) (n0 : Nat) (O0 : Old Z n0 h0) (hE : EV Z Ba Aa) (P0 : Arv Z h0 t0 k0 .char (2 : Int32) [(.int c0), (.int c1)] (.int 0)) (P1 : Arv Z h0 t1 k1 .byte (2 : Int32) [(.int 0), (.int 0)] (.int 0)) (g_t1 : n0 ≤ t1) (nt : ¬ (t0 = t1)) :
    MetFree l Lm (head1 (Jvm.Cond.code Lm jdk_52_method_21_code 7 (some .int) :: ws) ({ frames := 0, cells := 0, slots := 0, locals := 0 } : Room)) (fun a U => a = #[(.ref t0), (.int 0), (.ref t1), (.int 0), (.int 2)] ∧ Z.Warmed39 U.vm ∧ U.heap = h0) (fun _ _ _ _ _ => True) (fun _ U o U' => ∃ v L, o = .returned v ∧ Lp Z t0 t1 k0 k1 c0 c1 Ba Aa h0 n0 v U'.heap L ∧ FrameEnd U o U' L ({ frames := 0, cells := 0, slots := 0, locals := 0 } : Room).cells ({ frames := 0, cells := 0, slots := 0, locals := 0 } : Room).slots) := by
  refine MetFree.of_bodySF (plainFor_of_name Pa) hisR ?_
  intro p e s m args below meth c s₁ Bd hml0 hP hK
  obtain ⟨rfl, hZ, hh⟩ := hP
  have hx := Bd.exec
  have hby := Bd.bytes
  have hml : c.maxLocals = 7 := hml0
  have hown : s.vm.findClass "java/lang/StringUTF16" = some m.cls := findClass_of_methodNamed Bd.named
  have hnm := (name_of_methodNamed Bd.named Bd.method).1
  have X00 : Stand p l e ({ frames := 0, cells := 0, slots := 0, locals := 0 } : Room) s m #[(.ref t0), (.int 0), (.ref t1), (.int 0), (.int 2)] below meth c s₁ [] 0 0 := Stand.of_body Bd
  have e00 : s₁.heap = h0 := by rw [← hh, Bd.state]; rfl
  have N00 := Fr.nil n0
  refine Classical.byContradiction fun hNG => ?_
  have K00 := Keep.refl h0 [t1]
  have k00 : ∀ t, Ga p e below m s₁ 0 #[.val (.ref t0), .val (.int 0), .val (.ref t1), .val (.int 0), .val (.int 2), .unset, .unset] [] t → Ra p e below m s₁ #[(.ref t0), (.int 0), (.ref t1), (.int 0), (.int 2)] 7 t := fun t k => castTop (Gx m t0 ((0 : Int32)) t1 ((0 : Int32)) ((2 : Int32)) ) k
  obtain ⟨Ua, La, Va, Ma, Ha, Ia, Ka⟩ := (id hE : EV Z Ba Aa)
  obtain ⟨cl10, Ar10, q10, Sz10, Nn10, Hs10, Gf10⟩ := id P0
  have hin11 : ¬ ((0 : Int32) < 0 ∨ cl10.slots.size ≤ ((0 : Int32)).toNatClampNeg) := inb_of Sz10 ⟨by decide, by decide⟩
  have hat12 : cl10.slots[((0 : Int32)).toNatClampNeg]? = some (.int c0) := Hs10.at hin11 rfl
  have k13 : ∀ t, Ga p e below m s₁ 20 #[.val (.ref t0), .val (.int 0), .val (.ref t1), .val (.int 0), .val (.int 2), .val (.int 0), .val (.int c0)] [(.int 255), (.int c0)] t → Ra p e below m s₁ #[(.ref t0), (.int 0), (.ref t1), (.int 0), (.int 2)] 7 t := by
    intro t k
    refine k00 t ?_
    refine XS.iconst X00.here hx rfl (hb hby Rj) ?_
    refine XS.istore X00.here hx rfl (hb hby Uj) rfl (l' := #[.val (.ref t0), .val (.int 0), .val (.ref t1), .val (.int 0), .val (.int 2), .val (.int 0), .unset]) rfl ?_
    refine XS.iload X00.here hx rfl (hb hby Hb) rfl ?_
    refine XS.iload X00.here hx rfl (hb hby Ib) rfl ?_
    refine XS.icmpNo X00.here hx rfl (hb hby Kb) rfl (tlt (by decide : (0 : Int32) < (2 : Int32))).2.1 ?_
    refine XS.aloadN X00.here hx rfl (hb hby Mb) rfl rfl ?_
    refine XS.iloadN X00.here hx rfl (hb hby Pb) rfl ?_
    refine X00.caload hx (j := (0 : Int32)) (v := (.int c0)) (by rw [e00]; exact Ar10.1) (State.isArrayOf_alike hZ.alike Ar10.2.1) Ar10.2.2 hin11 hat12 (g := (mkF m 12 #[.val (.ref t0), .val (.int 0), .val (.ref t1), .val (.int 0), .val (.int 2), .val (.int 0), .unset] [(.int 0), (.ref t0)])) rfl rfl (hb hby Rb) _ ?_
    show Ga p e below m s₁ 13 #[.val (.ref t0), .val (.int 0), .val (.ref t1), .val (.int 0), .val (.int 2), .val (.int 0), .unset] [(.int c0)] t
    refine XS.istore X00.here hx rfl (hb hby Ub) rfl (l' := #[.val (.ref t0), .val (.int 0), .val (.ref t1), .val (.int 0), .val (.int 2), .val (.int 0), .val (.int c0)]) rfl ?_
    refine XS.iload X00.here hx rfl (hb hby Vb) rfl ?_
    refine XS.sipush X00.here hx rfl (hb hby Wb) ?_
    exact k
  by_cases hc14 : (255 : Int32) < c0
  · have k15 : ∀ t, Ga p e below m s₁ 25 #[.val (.ref t0), .val (.int 0), .val (.ref t1), .val (.int 0), .val (.int 2), .val (.int 0), .val (.int c0)] [(.int 0)] t → Ra p e below m s₁ #[(.ref t0), (.int 0), (.ref t1), (.int 0), (.int 2)] 7 t := by
      intro t k
      refine k13 t ?_
      refine XS.icmpNo X00.here hx rfl (hb hby Wa) rfl (tlt hc14).2.2.2 ?_
      refine XS.iload X00.here hx rfl (hb hby Yb) rfl ?_
      exact k
    obtain ⟨fs, hr, hrun, hended, hW, hsame⟩ := X00.leave (v := some (.int 0)) (fun h => by rw [Bd.returns] at h; cases h)
    refine hNG ⟨_, _, k15 _ ?_, hrun, hended, _, _, rfl, ?_, ⟨_, rfl⟩, hW, hsame.mono (by decide) (by decide)⟩
    · exact retOut X00 hx (t := .int) Bd.returns rfl (Or.inl ⟨rfl, Or.inl rfl, _, rfl⟩) (hb hby Zb) hr
    · show Lp Z t0 t1 k0 k1 c0 c1 Ba Aa h0 n0 _ s₁.heap _
      rw [e00]
      exact ⟨(0 : Int32), _, rfl, N00, O0, K00, P1, (Or.inr (Or.inl ⟨rfl, hc14⟩))⟩
  · obtain ⟨cl16, Ar16, q16, Sz16, Nn16, Hs16, Gf16⟩ := id P1
    have hin17 : ¬ ((0 : Int32) < 0 ∨ cl16.slots.size ≤ ((0 : Int32)).toNatClampNeg) := inb_of Sz16 ⟨by decide, by decide⟩
    obtain ⟨T18, h18, X18, e18, W18, st18⟩ := stB X00 hx hZ e00 Ar16 (j := (0 : Int32)) hin17 (g := (mkF m 31 #[.val (.ref t0), .val (.int 0), .val (.ref t1), .val (.int 0), .val (.int 2), .val (.int 0), .val (.int c0)] [(.int (c0.toInt8.toInt32)), (.int 0), (.ref t1)])) rfl rfl (hb hby Hc)
    have V18 : Arv Z h18 t1 k1 .byte (2 : Int32) [(.int ((c0.toInt8.toInt32).toInt8.toInt32)), (.int 0)] (.int 0) := Arv.set Ar16 q16 Sz16 Nn16 Hs16 Gf16 (fits_nar_byte _) W18 0 rfl (Nat.le_of_ble_eq_true rfl)
    have N18 := Fr.snoc X18 N00 g_t1
    have O18 := O0.wr W18 g_t1
    have K18 := K00.wr W18 (Or.inl (List.mem_of_getElem? (i := 0) rfl))
    have f19 := (P0.other W18 nt)
    obtain ⟨cl20, Ar20, q20, Sz20, Nn20, Hs20, Gf20⟩ := id f19
    have hin21 : ¬ ((1 : Int32) < 0 ∨ cl20.slots.size ≤ ((1 : Int32)).toNatClampNeg) := inb_of Sz20 ⟨by decide, by decide⟩
    have hat22 : cl20.slots[((1 : Int32)).toNatClampNeg]? = some (.int c1) := Hs20.at hin21 rfl
    have k23 : ∀ t, Ga p e below m T18 20 #[.val (.ref t0), .val (.int 1), .val (.ref t1), .val (.int 1), .val (.int 2), .val (.int 1), .val (.int c1)] [(.int 255), (.int c1)] t → Ra p e below m s₁ #[(.ref t0), (.int 0), (.ref t1), (.int 0), (.int 2)] 7 t := by
      intro t k
      refine k13 t ?_
      refine XS.icmpYes X00.here hx rfl (pc0 := 20) (pc' := 26) rfl (hb hby Wa) rfl (flt hc14).2.2.2 (by decide) (by decide) ?_
      refine XS.aloadN X00.here hx rfl (hb hby Ac) rfl rfl ?_
      refine XS.iloadN X00.here hx rfl (hb hby Bc) rfl ?_
      refine XS.iload X00.here hx rfl (hb hby Dc) rfl ?_
      refine XS.i2b X00.here hx rfl (hb hby Gc) rfl ?_
      refine st18 _ ?_
      refine XS.iinc X18.here hx rfl (hb hby Ic) rfl (l' := #[.val (.ref t0), .val (.int ((0 : Int32) + (1 : Int32))), .val (.ref t1), .val (.int 0), .val (.int 2), .val (.int 0), .val (.int c0)]) rfl ?_
      show Ga p e below m T18 35 #[.val (.ref t0), .val (.int ((0 : Int32) + (1 : Int32))), .val (.ref t1), .val (.int 0), .val (.int 2), .val (.int 0), .val (.int c0)] [] t
      rw [show ((0 : Int32) + (1 : Int32)) = (1 : Int32) from by decide]
      show Ga p e below m T18 35 #[.val (.ref t0), .val (.int 1), .val (.ref t1), .val (.int 0), .val (.int 2), .val (.int 0), .val (.int c0)] [] t
      refine XS.iinc X18.here hx rfl (hb hby Kc) rfl (l' := #[.val (.ref t0), .val (.int 1), .val (.ref t1), .val (.int ((0 : Int32) + (1 : Int32))), .val (.int 2), .val (.int 0), .val (.int c0)]) rfl ?_
      show Ga p e below m T18 38 #[.val (.ref t0), .val (.int 1), .val (.ref t1), .val (.int ((0 : Int32) + (1 : Int32))), .val (.int 2), .val (.int 0), .val (.int c0)] [] t
      rw [show ((0 : Int32) + (1 : Int32)) = (1 : Int32) from by decide]
      refine XS.iinc X18.here hx rfl (hb hby Lc) rfl (l' := #[.val (.ref t0), .val (.int 1), .val (.ref t1), .val (.int 1), .val (.int 2), .val (.int ((0 : Int32) + (1 : Int32))), .val (.int c0)]) rfl ?_
      show Ga p e below m T18 41 #[.val (.ref t0), .val (.int 1), .val (.ref t1), .val (.int 1), .val (.int 2), .val (.int ((0 : Int32) + (1 : Int32))), .val (.int c0)] [] t
      rw [show ((0 : Int32) + (1 : Int32)) = (1 : Int32) from by decide]
      refine XS.goto X18.here hx rfl (pc0 := 41) (pc' := 3) rfl (hb hby Mc) (by decide) (by decide) ?_
      refine XS.iload X18.here hx rfl (hb hby Hb) rfl ?_
      refine XS.iload X18.here hx rfl (hb hby Ib) rfl ?_
      refine XS.icmpNo X18.here hx rfl (hb hby Kb) rfl (tlt (by decide : (1 : Int32) < (2 : Int32))).2.1 ?_
      show Ga p e below m T18 10 #[.val (.ref t0), .val (.int 1), .val (.ref t1), .val (.int 1), .val (.int 2), .val (.int 1), .val (.int c0)] [] t
      refine XS.aloadN X18.here hx rfl (hb hby Mb) rfl rfl ?_
      refine XS.iloadN X18.here hx rfl (hb hby Pb) rfl ?_
      refine X18.caload hx (j := (1 : Int32)) (v := (.int c1)) (by rw [e18]; exact Ar20.1) (State.isArrayOf_alike hZ.alike Ar20.2.1) Ar20.2.2 hin21 hat22 (g := (mkF m 12 #[.val (.ref t0), .val (.int 1), .val (.ref t1), .val (.int 1), .val (.int 2), .val (.int 1), .val (.int c0)] [(.int 1), (.ref t0)])) rfl rfl (hb hby Rb) _ ?_
      refine XS.istore X18.here hx rfl (hb hby Ub) rfl (l' := #[.val (.ref t0), .val (.int 1), .val (.ref t1), .val (.int 1), .val (.int 2), .val (.int 1), .val (.int c1)]) rfl ?_
      refine XS.iload X18.here hx rfl (hb hby Vb) rfl ?_
      refine XS.sipush X18.here hx rfl (hb hby Wb) ?_
      exact k
    by_cases hc24 : (255 : Int32) < c1
    · have k25 : ∀ t, Ga p e below m T18 25 #[.val (.ref t0), .val (.int 1), .val (.ref t1), .val (.int 1), .val (.int 2), .val (.int 1), .val (.int c1)] [(.int 1)] t → Ra p e below m s₁ #[(.ref t0), (.int 0), (.ref t1), (.int 0), (.int 2)] 7 t := by
        intro t k
        refine k23 t ?_
        refine XS.icmpNo X18.here hx rfl (hb hby Wa) rfl (tlt hc24).2.2.2 ?_
        refine XS.iload X18.here hx rfl (hb hby Yb) rfl ?_
        exact k
      obtain ⟨fs, hr, hrun, hended, hW, hsame⟩ := X18.leave (v := some (.int 1)) (fun h => by rw [Bd.returns] at h; cases h)
      refine hNG ⟨_, _, k25 _ ?_, hrun, hended, _, _, rfl, ?_, ⟨_, rfl⟩, hW, hsame.mono (by decide) (by decide)⟩
      · exact retOut X18 hx (t := .int) Bd.returns rfl (Or.inl ⟨rfl, Or.inl rfl, _, rfl⟩) (hb hby Zb) hr
      · show Lp Z t0 t1 k0 k1 c0 c1 Ba Aa h0 n0 _ T18.heap _
        rw [e18]
        exact ⟨(1 : Int32), _, rfl, N18, O18, K18, V18, (Or.inr (Or.inr (⟨rfl, hc24⟩)))⟩
    · obtain ⟨cl26, Ar26, q26, Sz26, Nn26, Hs26, Gf26⟩ := id V18
      have hin27 : ¬ ((1 : Int32) < 0 ∨ cl26.slots.size ≤ ((1 : Int32)).toNatClampNeg) := inb_of Sz26 ⟨by decide, by decide⟩
      obtain ⟨T28, h28, X28, e28, W28, st28⟩ := stB X18 hx hZ e18 Ar26 (j := (1 : Int32)) hin27 (g := (mkF m 31 #[.val (.ref t0), .val (.int 1), .val (.ref t1), .val (.int 1), .val (.int 2), .val (.int 1), .val (.int c1)] [(.int (c1.toInt8.toInt32)), (.int 1), (.ref t1)])) rfl rfl (hb hby Hc)
      have V28 : Arv Z h28 t1 k1 .byte (2 : Int32) [(.int ((c0.toInt8.toInt32).toInt8.toInt32)), (.int ((c1.toInt8.toInt32).toInt8.toInt32))] (.int 0) := Arv.set Ar26 q26 Sz26 Nn26 Hs26 Gf26 (fits_nar_byte _) W28 1 rfl (Nat.le_of_ble_eq_true rfl)
      have N28 := Fr.snoc X28 N18 g_t1
      have O28 := O18.wr W28 g_t1
      have K28 := K18.wr W28 (Or.inl (List.mem_of_getElem? (i := 0) rfl))
      have k29 : ∀ t, Ga p e below m T28 46 #[.val (.ref t0), .val (.int 2), .val (.ref t1), .val (.int 2), .val (.int 2), .val (.int 2), .val (.int c1)] [(.int 2)] t → Ra p e below m s₁ #[(.ref t0), (.int 0), (.ref t1), (.int 0), (.int 2)] 7 t := by
        intro t k
        refine k23 t ?_
        refine XS.icmpYes X18.here hx rfl (pc0 := 20) (pc' := 26) rfl (hb hby Wa) rfl (flt hc24).2.2.2 (by decide) (by decide) ?_
        refine XS.aloadN X18.here hx rfl (hb hby Ac) rfl rfl ?_
        refine XS.iloadN X18.here hx rfl (hb hby Bc) rfl ?_
        refine XS.iload X18.here hx rfl (hb hby Dc) rfl ?_
        refine XS.i2b X18.here hx rfl (hb hby Gc) rfl ?_
        refine st28 _ ?_
        refine XS.iinc X28.here hx rfl (hb hby Ic) rfl (l' := #[.val (.ref t0), .val (.int ((1 : Int32) + (1 : Int32))), .val (.ref t1), .val (.int 1), .val (.int 2), .val (.int 1), .val (.int c1)]) rfl ?_
        show Ga p e below m T28 35 #[.val (.ref t0), .val (.int ((1 : Int32) + (1 : Int32))), .val (.ref t1), .val (.int 1), .val (.int 2), .val (.int 1), .val (.int c1)] [] t
        rw [show ((1 : Int32) + (1 : Int32)) = (2 : Int32) from by decide]
        show Ga p e below m T28 35 #[.val (.ref t0), .val (.int 2), .val (.ref t1), .val (.int 1), .val (.int 2), .val (.int 1), .val (.int c1)] [] t
        refine XS.iinc X28.here hx rfl (hb hby Kc) rfl (l' := #[.val (.ref t0), .val (.int 2), .val (.ref t1), .val (.int ((1 : Int32) + (1 : Int32))), .val (.int 2), .val (.int 1), .val (.int c1)]) rfl ?_
        show Ga p e below m T28 38 #[.val (.ref t0), .val (.int 2), .val (.ref t1), .val (.int ((1 : Int32) + (1 : Int32))), .val (.int 2), .val (.int 1), .val (.int c1)] [] t
        rw [show ((1 : Int32) + (1 : Int32)) = (2 : Int32) from by decide]
        refine XS.iinc X28.here hx rfl (hb hby Lc) rfl (l' := #[.val (.ref t0), .val (.int 2), .val (.ref t1), .val (.int 2), .val (.int 2), .val (.int ((1 : Int32) + (1 : Int32))), .val (.int c1)]) rfl ?_
        show Ga p e below m T28 41 #[.val (.ref t0), .val (.int 2), .val (.ref t1), .val (.int 2), .val (.int 2), .val (.int ((1 : Int32) + (1 : Int32))), .val (.int c1)] [] t
        rw [show ((1 : Int32) + (1 : Int32)) = (2 : Int32) from by decide]
        refine XS.goto X28.here hx rfl (pc0 := 41) (pc' := 3) rfl (hb hby Mc) (by decide) (by decide) ?_
        refine XS.iload X28.here hx rfl (hb hby Hb) rfl ?_
        refine XS.iload X28.here hx rfl (hb hby Ib) rfl ?_
        refine XS.icmpYes X28.here hx rfl (pc0 := 7) (pc' := 44) rfl (hb hby Kb) rfl (flt (by decide : ¬ ((2 : Int32) < (2 : Int32)))).2.1 (by decide) (by decide) ?_
        show Ga p e below m T28 44 #[.val (.ref t0), .val (.int 2), .val (.ref t1), .val (.int 2), .val (.int 2), .val (.int 2), .val (.int c1)] [] t
        refine XS.iload X28.here hx rfl (hb hby Zi) rfl ?_
        exact k
      obtain ⟨fs, hr, hrun, hended, hW, hsame⟩ := X28.leave (v := some (.int 2)) (fun h => by rw [Bd.returns] at h; cases h)
      refine hNG ⟨_, _, k29 _ ?_, hrun, hended, _, _, rfl, ?_, ⟨_, rfl⟩, hW, hsame.mono (by decide) (by decide)⟩
      · exact retOut X28 hx (t := .int) Bd.returns rfl (Or.inl ⟨rfl, Or.inl rfl, _, rfl⟩) (hb hby Aj) hr
      · show Lp Z t0 t1 k0 k1 c0 c1 Ba Aa h0 n0 _ T28.heap _
        rw [e28]
        exact ⟨(2 : Int32), _, rfl, N28, O28, K28, V28, (Or.inl rfl)⟩
theorem Ix (m : MethodId) (x0 : Int32)  : entryFrame m #[(.int x0)] 1 = mkF m 0 #[.val (.int x0)] [] := by first | (simp [entryFrame, mkF, argsToLocals, Value.category]; done) | rfl
theorem ef_f2 (m : MethodId) (x0 : Int32)  : entryFrame m #[(.int x0)] 1 = mkF m 0 #[.val (.int x0)] [] := by first | (simp [entryFrame, mkF, argsToLocals, Value.category]; done) | rfl
def Q_f2 (Z : State) (Ba : Int32) (Aa : Value) (h0 : Heap) (n0 : Nat) (v : Option Value) (h : Heap) (L : List Loc) : Prop := v = some (.int 4) ∧ Fr n0 L ∧ h = h0
set_option maxRecDepth 65536 in
set_option maxHeartbeats 40000000 in
theorem rm_f2 (l : Launch) (Z : State) (a0 : Array Value) (hw : ∀ d ∈ tables_1, d.before a0 Z = true) (ws : List Jvm.Cond) (Ba : Int32) (Aa : Value) (h0 : Heap) (n0 : Nat) (O0 : Old Z n0 h0) (hE : EV Z Ba Aa) :
    MetFree l Mm (head1 (Jvm.Cond.code Mm jdk_52_method_3_code 1 (some .int) :: ws) ({ frames := 0, cells := 0, slots := 0, locals := 0 } : Room)) (fun a U => a = #[(.int 2)] ∧ Z.Warmed39 U.vm ∧ U.heap = h0) (fun _ _ _ _ _ => True) (fun _ U o U' => ∃ v L, o = .returned v ∧ Q_f2 Z Ba Aa h0 n0 v U'.heap L ∧ FrameEnd U o U' L ({ frames := 0, cells := 0, slots := 0, locals := 0 } : Room).cells ({ frames := 0, cells := 0, slots := 0, locals := 0 } : Room).slots) := by
  refine MetFree.of_bodySF (plainFor_of_name Pa) hisR ?_
  intro p e s m args below meth c s₁ Bd hml0 hP hK
  obtain ⟨rfl, hZ, hh⟩ := hP
  have hx := Bd.exec
  have hby := Bd.bytes
  have hml : c.maxLocals = 1 := hml0
  have hown : s.vm.findClass "java/lang/StringUTF16" = some m.cls := findClass_of_methodNamed Bd.named
  have hnm := (name_of_methodNamed Bd.named Bd.method).1
  have X00 : Stand p l e ({ frames := 0, cells := 0, slots := 0, locals := 0 } : Room) s m #[(.int 2)] below meth c s₁ [] 0 0 := Stand.of_body Bd
  have e00 : s₁.heap = h0 := by rw [← hh, Bd.state]; rfl
  have N00 := Fr.nil n0
  refine Classical.byContradiction fun hNG => ?_
  have K00 := Keep.refl h0 []
  have k00 : ∀ t, Ga p e below m s₁ 0 #[.val (.int 2)] [] t → Ra p e below m s₁ #[(.int 2)] 1 t := fun t k => castTop (ef_f2 m ((2 : Int32)) ) k
  obtain ⟨Ua, La, Va, Ma, Ha, Ia, Ka⟩ := (id hE : EV Z Ba Aa)
  have k10 : ∀ t, Ga p e below m s₁ 58 #[.val (.int 2)] [(.int 4)] t → Ra p e below m s₁ #[(.int 2)] 1 t := by
    intro t k
    refine k00 t ?_
    refine XS.iloadN X00.here hx rfl (hb hby Gl) rfl ?_
    refine XS.ifYes X00.here hx rfl (pc0 := 1) (pc' := 12) rfl (hb hby Hl) rfl ((if0 _ _).trans (flt (by decide : ¬ ((2 : Int32) < (0 : Int32)))).2.1) (by decide) (by decide) ?_
    refine XS.iloadN X00.here hx rfl (hb hby Vj) rfl ?_
    refine X00.ldcI hx hown (mvT hZ (Da hw 56 rfl)) rfl (hb hby Wj) ?_
    refine XS.icmpYes X00.here hx rfl (pc0 := 15) (pc' := 55) rfl (hb hby Yj) rfl (tlt (by decide : (2 : Int32) < (1073741823 : Int32))).1 (by decide) (by decide) ?_
    refine XS.iloadN X00.here hx rfl (hb hby Zj) rfl ?_
    refine XS.iconst X00.here hx rfl (hb hby Ak) ?_
    refine XS.ishl X00.here hx rfl (hb hby Bk) rfl ?_
    show Ga p e below m s₁ 58 #[.val (.int 2)] [(.int ((2 : Int32) <<< ((1 : Int32) &&& 31)))] t
    rw [show ((2 : Int32) <<< ((1 : Int32) &&& 31)) = (4 : Int32) from by decide]
    exact k
  obtain ⟨fs, hr, hrun, hended, hW, hsame⟩ := X00.leave (v := some (.int 4)) (fun h => by rw [Bd.returns] at h; cases h)
  refine hNG ⟨_, _, k10 _ ?_, hrun, hended, _, _, rfl, ?_, ⟨_, rfl⟩, hW, hsame.mono (by decide) (by decide)⟩
  · exact retOut X00 hx (t := .int) Bd.returns rfl (Or.inl ⟨rfl, Or.inl rfl, _, rfl⟩) (hb hby Dk) hr
  · show Q_f2 Z Ba Aa h0 n0 _ s₁.heap _
    rw [e00]
    exact ⟨rfl, N00, rfl⟩
def Hs (Z : State) (Ba : Int32) (Aa : Value) (h0 : Heap) (n0 : Nat) (v : Option Value) (h : Heap) (L : List Loc) : Prop := ∃ (b : Addr) (k : ClassId), v = some (.ref b) ∧ Fr n0 L ∧ Old Z n0 h ∧ Keep h0 h [] ∧ n0 ≤ b ∧ h0.size ≤ b ∧ Arv Z h b k .byte (4 : Int32) [(.int 0), (.int 0), (.int 0), (.int 0)] (.int 0)
set_option maxRecDepth 65536 in
set_option maxHeartbeats 40000000 in
theorem Kx (l : Launch) (Z : State) (a0 : Array Value) (hw : ∀ d ∈ tables_1, d.before a0 Z = true) (ws : List Jvm.Cond) (Ba : Int32) (Aa : Value) (h0 : Heap) (n0 : Nat) (O0 : Old Z n0 h0) (hE : EV Z Ba Aa) :
    MetFree l Pm (head1 (Jvm.Cond.code Pm jdk_52_method_2_code 1 (some (.array .byte)) :: ws) ({ frames := 1, cells := 1, slots := 4, locals := 12 } : Room)) (fun a U => a = #[(.int 2)] ∧ Z.Warmed39 U.vm ∧ U.heap = h0) (fun _ _ _ _ _ => True) (fun _ U o U' => ∃ v L, o = .returned v ∧ Hs Z Ba Aa h0 n0 v U'.heap L ∧ FrameEnd U o U' L ({ frames := 1, cells := 1, slots := 4, locals := 12 } : Room).cells ({ frames := 1, cells := 1, slots := 4, locals := 12 } : Room).slots) := by
  refine MetFree.of_bodySF (plainFor_of_name Pa) hisR ?_
  intro p e s m args below meth c s₁ Bd hml0 hP hK
  obtain ⟨rfl, hZ, hh⟩ := hP
  have hx := Bd.exec
  have hby := Bd.bytes
  have hml : c.maxLocals = 1 := hml0
  have hown : s.vm.findClass "java/lang/StringUTF16" = some m.cls := findClass_of_methodNamed Bd.named
  have hnm := (name_of_methodNamed Bd.named Bd.method).1
  have X00 : Stand p l e ({ frames := 1, cells := 1, slots := 4, locals := 12 } : Room) s m #[(.int 2)] below meth c s₁ [] 0 0 := Stand.of_body Bd
  have e00 : s₁.heap = h0 := by rw [← hh, Bd.state]; rfl
  have N00 := Fr.nil n0
  refine Classical.byContradiction fun hNG => ?_
  have K00 := Keep.refl h0 []
  have k00 : ∀ t, Ga p e below m s₁ 0 #[.val (.int 2)] [] t → Ra p e below m s₁ #[(.int 2)] 1 t := fun t k => castTop (Ix m ((2 : Int32)) ) k
  obtain ⟨Ua, La, Va, Ma, Ha, Ia, Ka⟩ := (id hE : EV Z Ba Aa)
  obtain ⟨_, _, ⟨T10, L10, k10, n10⟩, -, X10, ⟨Lc10, hQ10, l10, y10, z10⟩, st10⟩ := Jvm.LawKit.callS X00 hx (y := Mm) hown (mvT hZ (Da hw 53 rfl)) (mvT hZ (Da hw 54 rfl)) (mvT hZ (Da hw 18 rfl)) (mvT hZ (Da hw 55 rfl)) (by decide) (backOf (W := 0) (rm_f2 l Z a0 hw []  _ _ h0 n0 O0 hE) hZ (Da hw 55 rfl) (Da hw 18 rfl) (by decide) (by decide)) (g := (mkF m 1 #[.val (.int 2)] [(.int 2)])) rfl (by rw [hml]; rfl) (argsL := [(.int 2)]) (rest := []) (lenOf Kp rfl) rfl (by show 2 * 0 + _ ≤ _; exact Nat.le_of_eq rfl) (hb hby Dl) (fun _ _ => ⟨rfl, e00, (by decide : 0 + 0 ≤ _), (by decide : 0 + 0 ≤ _)⟩)
  dsimp only [Pt.U, Pt.locs, Pt.cells, Pt.slots] at X10 l10 y10 z10 st10 hQ10
  subst l10 y10 z10
  obtain ⟨rfl, N10q, hp10⟩ := hQ10
  have N10 := Fr.app N00 N10q
  obtain ⟨T11, h11, c11, X11, e11, E11, A11, st11⟩ := newP X10 hx hZ (Da hw 20 rfl) hp10 (g := (mkF m 4 #[.val (.int 2)] [(.int 4)])) rfl (hb hby Il) rfl (by decide) (cap := 4) (by decide) (by decide) (by decide) (by decide)
  obtain ⟨b11, g11⟩ : ∃ z, z = h0.size := ⟨_, rfl⟩
  rw [← g11] at A11 st11
  have O11 := O0.ext E11
  have g_b11 : n0 ≤ b11 := Nat.le_trans (Nat.le_of_eq O0.1.symm) (Nat.le_trans O0.2.1 (Nat.le_of_eq g11.symm))
  have s_b11 : h0.size ≤ b11 := Nat.le_trans K00.1 (Nat.le_of_eq g11.symm)
  have K11 := K00.ext E11
  have V11 : Arv Z h11 b11 c11 .byte (4 : Int32) [(.int 0), (.int 0), (.int 0), (.int 0)] (.int 0) := (Arv.new A11 (by decide)).pad (pad_rep [] (.int 0) 4)
  have lt_b11 := V11.lt
  have k12 : ∀ t, Ga p e below m T11 6 #[.val (.int 2)] [(.ref b11)] t → Ra p e below m s₁ #[(.int 2)] 1 t := by
    intro t k
    refine k00 t ?_
    refine XS.iloadN X00.here hx rfl (hb hby Bl) rfl ?_
    refine st10 _ ?_
    refine st11 _ ?_
    exact k
  obtain ⟨fs, hr, hrun, hended, hW, hsame⟩ := X11.leave (v := some (.ref b11)) (fun h => by rw [Bd.returns] at h; cases h)
  refine hNG ⟨_, _, k12 _ ?_, hrun, hended, _, _, rfl, ?_, ⟨_, rfl⟩, hW, hsame.mono (by decide) (by decide)⟩
  · exact retOut X11 hx (t := (.array .byte)) Bd.returns rfl (Or.inr (Or.inr (Or.inr (Or.inr ⟨rfl, rfl, rfl⟩)))) (hb hby Kl) hr
  · show Hs Z Ba Aa h0 n0 _ T11.heap _
    rw [e11]
    exact ⟨b11, c11, rfl, N10, O11, K11, g_b11, s_b11, V11⟩
theorem Kt (m : MethodId) (x0 : Addr) (x1 : Int32) (x2 : Int32)  : entryFrame m #[(.ref x0), (.int x1), (.int x2)] 3 = mkF m 0 #[.val (.ref x0), .val (.int x1), .val (.int x2)] [] := by first | (simp [entryFrame, mkF, argsToLocals, Value.category]; done) | rfl
def Mq (Z : State) (q0 : Addr) (k0 : ClassId) (cq : Int32) (x0 : Int32) (x1 : Int32) (x2 : Int32) (x3 : Int32) (Ba : Int32) (Aa : Value) (h0 : Heap) (n0 : Nat) (v : Option Value) (h : Heap) (L : List Loc) : Prop := v = none ∧ Fr n0 L ∧ Old Z n0 h ∧ Keep h0 h [q0] ∧ Arv Z h q0 k0 .byte (4 : Int32) [(.int ((cq >>> ((0 : Int32) &&& 31)).toInt8.toInt32)), (.int ((cq >>> ((8 : Int32) &&& 31)).toInt8.toInt32)), (.int x2), (.int x3)] (.int 0)
set_option maxRecDepth 65536 in
set_option maxHeartbeats 40000000 in
theorem Lt (l : Launch) (Z : State) (a0 : Array Value) (hw : ∀ d ∈ tables_1, d.before a0 Z = true) (ws : List Jvm.Cond) (q0 : Addr) (k0 : ClassId) (cq : Int32) (x0 : Int32) (x1 : Int32) (x2 : Int32) (x3 : Int32) (Ba : Int32) (Aa : Value) (h0 : Heap) (n0 : Nat) (O0 : Old Z n0 h0) (hE : EV Z Ba Aa) (P0 : Arv Z h0 q0 k0 .byte (4 : Int32) [(.int x0), (.int x1), (.int x2), (.int x3)] (.int 0)) (g_q0 : n0 ≤ q0) :
    MetFree l Gi (head1 (Jvm.Cond.code Gi jdk_52_method_4_code 3 none :: ws) ({ frames := 0, cells := 0, slots := 0, locals := 0 } : Room)) (fun a U => a = #[(.ref q0), (.int 0), (.int cq)] ∧ Z.Warmed39 U.vm ∧ U.heap = h0) (fun _ _ _ _ _ => True) (fun _ U o U' => ∃ v L, o = .returned v ∧ Mq Z q0 k0 cq x0 x1 x2 x3 Ba Aa h0 n0 v U'.heap L ∧ FrameEnd U o U' L ({ frames := 0, cells := 0, slots := 0, locals := 0 } : Room).cells ({ frames := 0, cells := 0, slots := 0, locals := 0 } : Room).slots) := by
  refine MetFree.of_bodySF (plainFor_of_name Pa) hisR ?_
  intro p e s m args below meth c s₁ Bd hml0 hP hK
  obtain ⟨rfl, hZ, hh⟩ := hP
  have hx := Bd.exec
  have hby := Bd.bytes
  have hml : c.maxLocals = 3 := hml0
  have hown : s.vm.findClass "java/lang/StringUTF16" = some m.cls := findClass_of_methodNamed Bd.named
  have hnm := (name_of_methodNamed Bd.named Bd.method).1
  have X00 : Stand p l e ({ frames := 0, cells := 0, slots := 0, locals := 0 } : Room) s m #[(.ref q0), (.int 0), (.int cq)] below meth c s₁ [] 0 0 := Stand.of_body Bd
  have e00 : s₁.heap = h0 := by rw [← hh, Bd.state]; rfl
  have N00 := Fr.nil n0
  refine Classical.byContradiction fun hNG => ?_
  have K00 := Keep.refl h0 [q0]
  have k00 : ∀ t, Ga p e below m s₁ 0 #[.val (.ref q0), .val (.int 0), .val (.int cq)] [] t → Ra p e below m s₁ #[(.ref q0), (.int 0), (.int cq)] 3 t := fun t k => castTop (Kt m q0 ((0 : Int32)) cq ) k
  obtain ⟨Ua, La, Va, Ma, Ha, Ia, Ka⟩ := (id hE : EV Z Ba Aa)
  obtain ⟨T10, X10, e10, st10⟩ := getS2 X00 hx hZ hown (host := "") (Or.inl (Da hw 60 rfl)) Via.refl e00 (Ha.ext O0.2) (g := (mkF m 0 #[.val (.ref q0), .val (.int 0), .val (.int cq)] [])) rfl (hb hby Rg)
  obtain ⟨T11, X11, e11, st11⟩ := getS2 X10 hx hZ hown (host := "") (Or.inl (Da hw 61 rfl)) Via.refl e10 (Ia.ext O0.2) (g := (mkF m 38 #[.val (.ref q0), .val (.int 1), .val (.int cq)] [(.int cq), (.int 0), (.ref q0)])) rfl (hb hby Le)
  obtain ⟨cl12, Ar12, q12, Sz12, Nn12, Hs12, Gf12⟩ := id P0
  have hin13 : ¬ ((0 : Int32) < 0 ∨ cl12.slots.size ≤ ((0 : Int32)).toNatClampNeg) := inb_of Sz12 ⟨by decide, by decide⟩
  obtain ⟨T14, h14, X14, e14, W14, st14⟩ := stB X11 hx hZ e11 Ar12 (j := (0 : Int32)) hin13 (g := (mkF m 43 #[.val (.ref q0), .val (.int 1), .val (.int cq)] [(.int ((cq >>> ((0 : Int32) &&& 31)).toInt8.toInt32)), (.int 0), (.ref q0)])) rfl rfl (hb hby Re)
  have V14 : Arv Z h14 q0 k0 .byte (4 : Int32) [(.int ((cq >>> ((0 : Int32) &&& 31)).toInt8.toInt32)), (.int x1), (.int x2), (.int x3)] (.int 0) := by
    have q := Arv.set Ar12 q12 Sz12 Nn12 Hs12 Gf12 (fits_nar_byte _) W14 0 rfl (Nat.le_of_ble_eq_true rfl)
    first | exact q | (simp only [Yi, Di] at q; exact q)
  have N14 := Fr.snoc X14 N00 g_q0
  have O14 := O0.wr W14 g_q0
  have K14 := K00.wr W14 (Or.inl (List.mem_of_getElem? (i := 0) rfl))
  obtain ⟨T15, X15, e15, st15⟩ := getS2 X14 hx hZ hown (host := "") (Or.inl (Da hw 62 rfl)) Via.refl e14 (Ka.ext O14.2) (g := (mkF m 47 #[.val (.ref q0), .val (.int 1), .val (.int cq)] [(.int cq), (.int 1), (.ref q0)])) rfl (hb hby Ye)
  obtain ⟨cl16, Ar16, q16, Sz16, Nn16, Hs16, Gf16⟩ := id V14
  have hin17 : ¬ ((1 : Int32) < 0 ∨ cl16.slots.size ≤ ((1 : Int32)).toNatClampNeg) := inb_of Sz16 ⟨by decide, by decide⟩
  obtain ⟨T18, h18, X18, e18, W18, st18⟩ := stB X15 hx hZ e15 Ar16 (j := (1 : Int32)) hin17 (g := (mkF m 52 #[.val (.ref q0), .val (.int 1), .val (.int cq)] [(.int ((cq >>> ((8 : Int32) &&& 31)).toInt8.toInt32)), (.int 1), (.ref q0)])) rfl rfl (hb hby Bf)
  have V18 : Arv Z h18 q0 k0 .byte (4 : Int32) [(.int ((cq >>> ((0 : Int32) &&& 31)).toInt8.toInt32)), (.int ((cq >>> ((8 : Int32) &&& 31)).toInt8.toInt32)), (.int x2), (.int x3)] (.int 0) := by
    have q := Arv.set Ar16 q16 Sz16 Nn16 Hs16 Gf16 (fits_nar_byte _) W18 1 rfl (Nat.le_of_ble_eq_true rfl)
    first | exact q | (simp only [Yi, Di] at q; exact q)
  have N18 := Fr.snoc X18 N14 g_q0
  have O18 := O14.wr W18 g_q0
  have K18 := K14.wr W18 (Or.inl (List.mem_of_getElem? (i := 0) rfl))
  have k19 : ∀ t, Ga p e below m T18 53 #[.val (.ref q0), .val (.int 1), .val (.int cq)] [] t → Ra p e below m s₁ #[(.ref q0), (.int 0), (.int cq)] 3 t := by
    intro t k
    refine k00 t ?_
    refine st10 _ ?_
    refine XS.ifYes X10.here hx rfl (pc0 := 3) (pc' := 28) rfl (hb hby Ug) rfl ((if0 _ _).trans (feq (by decide : ¬ ((1 : Int32) = (0 : Int32)))).2) (by decide) (by decide) ?_
    refine XS.iloadN X10.here hx rfl (hb hby Zd) rfl ?_
    refine XS.iconst X10.here hx rfl (hb hby Ae) ?_
    refine XS.ishl X10.here hx rfl (hb hby Be) rfl ?_
    show Ga p e below m T10 31 #[.val (.ref q0), .val (.int 0), .val (.int cq)] [(.int ((0 : Int32) <<< ((1 : Int32) &&& 31)))] t
    rw [show ((0 : Int32) <<< ((1 : Int32) &&& 31)) = (0 : Int32) from by decide]
    refine XS.istoreN X10.here hx rfl (hb hby De) rfl (l' := #[.val (.ref q0), .val (.int 0), .val (.int cq)]) rfl ?_
    refine XS.aloadN X10.here hx rfl (hb hby Ge) rfl rfl ?_
    show Ga p e below m T10 33 #[.val (.ref q0), .val (.int 0), .val (.int cq)] [(.ref q0)] t
    refine XS.iloadN X10.here hx rfl (hb hby He) rfl ?_
    refine XS.iinc X10.here hx rfl (hb hby Ie) rfl (l' := #[.val (.ref q0), .val (.int ((0 : Int32) + (1 : Int32))), .val (.int cq)]) rfl ?_
    show Ga p e below m T10 37 #[.val (.ref q0), .val (.int ((0 : Int32) + (1 : Int32))), .val (.int cq)] [(.int 0), (.ref q0)] t
    rw [show ((0 : Int32) + (1 : Int32)) = (1 : Int32) from by decide]
    refine XS.iloadN X10.here hx rfl (hb hby Ke) rfl ?_
    refine st11 _ ?_
    refine XS.ishr X11.here hx rfl (hb hby Me) rfl ?_
    refine XS.i2b X11.here hx rfl (hb hby Pe) rfl ?_
    refine st14 _ ?_
    show Ga p e below m T14 44 #[.val (.ref q0), .val (.int 1), .val (.int cq)] [] t
    refine XS.aloadN X14.here hx rfl (hb hby Ue) rfl rfl ?_
    refine XS.iloadN X14.here hx rfl (hb hby Ve) rfl ?_
    refine XS.iloadN X14.here hx rfl (hb hby We) rfl ?_
    refine st15 _ ?_
    refine XS.ishr X15.here hx rfl (hb hby Ze) rfl ?_
    refine XS.i2b X15.here hx rfl (hb hby Af) rfl ?_
    refine st18 _ ?_
    exact k
  obtain ⟨fs, hr, hrun, hended, hW, hsame⟩ := X18.leave (v := none) (fun _ => rfl)
  refine hNG ⟨_, _, k19 _ ?_, hrun, hended, _, _, rfl, ?_, ⟨_, rfl⟩, hW, hsame.mono (by decide) (by decide)⟩
  · exact X18.returnOut hx Bd.returns (hb hby Df) hr
  · show Mq Z q0 k0 cq x0 x1 x2 x3 Ba Aa h0 n0 _ T18.heap _
    rw [e18]
    exact ⟨rfl, N18, O18, K18, V18⟩
theorem Mt (m : MethodId) (x0 : Addr) (x1 : Int32) (x2 : Int32)  : entryFrame m #[(.ref x0), (.int x1), (.int x2)] 3 = mkF m 0 #[.val (.ref x0), .val (.int x1), .val (.int x2)] [] := by first | (simp [entryFrame, mkF, argsToLocals, Value.category]; done) | rfl
def Pq (Z : State) (q0 : Addr) (k0 : ClassId) (cq : Int32) (x0 : Int32) (x1 : Int32) (x2 : Int32) (x3 : Int32) (Ba : Int32) (Aa : Value) (h0 : Heap) (n0 : Nat) (v : Option Value) (h : Heap) (L : List Loc) : Prop := v = none ∧ Fr n0 L ∧ Old Z n0 h ∧ Keep h0 h [q0] ∧ Arv Z h q0 k0 .byte (4 : Int32) [(.int x0), (.int x1), (.int ((cq >>> ((0 : Int32) &&& 31)).toInt8.toInt32)), (.int ((cq >>> ((8 : Int32) &&& 31)).toInt8.toInt32))] (.int 0)
set_option maxRecDepth 65536 in
set_option maxHeartbeats 40000000 in
theorem Rt (l : Launch) (Z : State) (a0 : Array Value) (hw : ∀ d ∈ tables_1, d.before a0 Z = true) (ws : List Jvm.Cond) (q0 : Addr) (k0 : ClassId) (cq : Int32) (x0 : Int32) (x1 : Int32) (x2 : Int32) (x3 : Int32) (Ba : Int32) (Aa : Value) (h0 : Heap) (n0 : Nat) (O0 : Old Z n0 h0) (hE : EV Z Ba Aa) (P0 : Arv Z h0 q0 k0 .byte (4 : Int32) [(.int x0), (.int x1), (.int x2), (.int x3)] (.int 0)) (g_q0 : n0 ≤ q0) :
    MetFree l Gi (head1 (Jvm.Cond.code Gi jdk_52_method_4_code 3 none :: ws) ({ frames := 0, cells := 0, slots := 0, locals := 0 } : Room)) (fun a U => a = #[(.ref q0), (.int 1), (.int cq)] ∧ Z.Warmed39 U.vm ∧ U.heap = h0) (fun _ _ _ _ _ => True) (fun _ U o U' => ∃ v L, o = .returned v ∧ Pq Z q0 k0 cq x0 x1 x2 x3 Ba Aa h0 n0 v U'.heap L ∧ FrameEnd U o U' L ({ frames := 0, cells := 0, slots := 0, locals := 0 } : Room).cells ({ frames := 0, cells := 0, slots := 0, locals := 0 } : Room).slots) := by
  refine MetFree.of_bodySF (plainFor_of_name Pa) hisR ?_
  intro p e s m args below meth c s₁ Bd hml0 hP hK
  obtain ⟨rfl, hZ, hh⟩ := hP
  have hx := Bd.exec
  have hby := Bd.bytes
  have hml : c.maxLocals = 3 := hml0
  have hown : s.vm.findClass "java/lang/StringUTF16" = some m.cls := findClass_of_methodNamed Bd.named
  have hnm := (name_of_methodNamed Bd.named Bd.method).1
  have X00 : Stand p l e ({ frames := 0, cells := 0, slots := 0, locals := 0 } : Room) s m #[(.ref q0), (.int 1), (.int cq)] below meth c s₁ [] 0 0 := Stand.of_body Bd
  have e00 : s₁.heap = h0 := by rw [← hh, Bd.state]; rfl
  have N00 := Fr.nil n0
  refine Classical.byContradiction fun hNG => ?_
  have K00 := Keep.refl h0 [q0]
  have k00 : ∀ t, Ga p e below m s₁ 0 #[.val (.ref q0), .val (.int 1), .val (.int cq)] [] t → Ra p e below m s₁ #[(.ref q0), (.int 1), (.int cq)] 3 t := fun t k => castTop (Mt m q0 ((1 : Int32)) cq ) k
  obtain ⟨Ua, La, Va, Ma, Ha, Ia, Ka⟩ := (id hE : EV Z Ba Aa)
  obtain ⟨T10, X10, e10, st10⟩ := getS2 X00 hx hZ hown (host := "") (Or.inl (Da hw 60 rfl)) Via.refl e00 (Ha.ext O0.2) (g := (mkF m 0 #[.val (.ref q0), .val (.int 1), .val (.int cq)] [])) rfl (hb hby Rg)
  obtain ⟨T11, X11, e11, st11⟩ := getS2 X10 hx hZ hown (host := "") (Or.inl (Da hw 61 rfl)) Via.refl e10 (Ia.ext O0.2) (g := (mkF m 38 #[.val (.ref q0), .val (.int 3), .val (.int cq)] [(.int cq), (.int 2), (.ref q0)])) rfl (hb hby Le)
  obtain ⟨cl12, Ar12, q12, Sz12, Nn12, Hs12, Gf12⟩ := id P0
  have hin13 : ¬ ((2 : Int32) < 0 ∨ cl12.slots.size ≤ ((2 : Int32)).toNatClampNeg) := inb_of Sz12 ⟨by decide, by decide⟩
  obtain ⟨T14, h14, X14, e14, W14, st14⟩ := stB X11 hx hZ e11 Ar12 (j := (2 : Int32)) hin13 (g := (mkF m 43 #[.val (.ref q0), .val (.int 3), .val (.int cq)] [(.int ((cq >>> ((0 : Int32) &&& 31)).toInt8.toInt32)), (.int 2), (.ref q0)])) rfl rfl (hb hby Re)
  have V14 : Arv Z h14 q0 k0 .byte (4 : Int32) [(.int x0), (.int x1), (.int ((cq >>> ((0 : Int32) &&& 31)).toInt8.toInt32)), (.int x3)] (.int 0) := by
    have q := Arv.set Ar12 q12 Sz12 Nn12 Hs12 Gf12 (fits_nar_byte _) W14 2 rfl (Nat.le_of_ble_eq_true rfl)
    first | exact q | (simp only [Yi, Di] at q; exact q)
  have N14 := Fr.snoc X14 N00 g_q0
  have O14 := O0.wr W14 g_q0
  have K14 := K00.wr W14 (Or.inl (List.mem_of_getElem? (i := 0) rfl))
  obtain ⟨T15, X15, e15, st15⟩ := getS2 X14 hx hZ hown (host := "") (Or.inl (Da hw 62 rfl)) Via.refl e14 (Ka.ext O14.2) (g := (mkF m 47 #[.val (.ref q0), .val (.int 3), .val (.int cq)] [(.int cq), (.int 3), (.ref q0)])) rfl (hb hby Ye)
  obtain ⟨cl16, Ar16, q16, Sz16, Nn16, Hs16, Gf16⟩ := id V14
  have hin17 : ¬ ((3 : Int32) < 0 ∨ cl16.slots.size ≤ ((3 : Int32)).toNatClampNeg) := inb_of Sz16 ⟨by decide, by decide⟩
  obtain ⟨T18, h18, X18, e18, W18, st18⟩ := stB X15 hx hZ e15 Ar16 (j := (3 : Int32)) hin17 (g := (mkF m 52 #[.val (.ref q0), .val (.int 3), .val (.int cq)] [(.int ((cq >>> ((8 : Int32) &&& 31)).toInt8.toInt32)), (.int 3), (.ref q0)])) rfl rfl (hb hby Bf)
  have V18 : Arv Z h18 q0 k0 .byte (4 : Int32) [(.int x0), (.int x1), (.int ((cq >>> ((0 : Int32) &&& 31)).toInt8.toInt32)), (.int ((cq >>> ((8 : Int32) &&& 31)).toInt8.toInt32))] (.int 0) := by
    have q := Arv.set Ar16 q16 Sz16 Nn16 Hs16 Gf16 (fits_nar_byte _) W18 3 rfl (Nat.le_of_ble_eq_true rfl)
    first | exact q | (simp only [Yi, Di] at q; exact q)
  have N18 := Fr.snoc X18 N14 g_q0
  have O18 := O14.wr W18 g_q0
  have K18 := K14.wr W18 (Or.inl (List.mem_of_getElem? (i := 0) rfl))
  have k19 : ∀ t, Ga p e below m T18 53 #[.val (.ref q0), .val (.int 3), .val (.int cq)] [] t → Ra p e below m s₁ #[(.ref q0), (.int 1), (.int cq)] 3 t := by
    intro t k
    refine k00 t ?_
    refine st10 _ ?_
    refine XS.ifYes X10.here hx rfl (pc0 := 3) (pc' := 28) rfl (hb hby Ug) rfl ((if0 _ _).trans (feq (by decide : ¬ ((1 : Int32) = (0 : Int32)))).2) (by decide) (by decide) ?_
    refine XS.iloadN X10.here hx rfl (hb hby Zd) rfl ?_
    refine XS.iconst X10.here hx rfl (hb hby Ae) ?_
    refine XS.ishl X10.here hx rfl (hb hby Be) rfl ?_
    show Ga p e below m T10 31 #[.val (.ref q0), .val (.int 1), .val (.int cq)] [(.int ((1 : Int32) <<< ((1 : Int32) &&& 31)))] t
    rw [show ((1 : Int32) <<< ((1 : Int32) &&& 31)) = (2 : Int32) from by decide]
    refine XS.istoreN X10.here hx rfl (hb hby De) rfl (l' := #[.val (.ref q0), .val (.int 2), .val (.int cq)]) rfl ?_
    refine XS.aloadN X10.here hx rfl (hb hby Ge) rfl rfl ?_
    show Ga p e below m T10 33 #[.val (.ref q0), .val (.int 2), .val (.int cq)] [(.ref q0)] t
    refine XS.iloadN X10.here hx rfl (hb hby He) rfl ?_
    refine XS.iinc X10.here hx rfl (hb hby Ie) rfl (l' := #[.val (.ref q0), .val (.int ((2 : Int32) + (1 : Int32))), .val (.int cq)]) rfl ?_
    show Ga p e below m T10 37 #[.val (.ref q0), .val (.int ((2 : Int32) + (1 : Int32))), .val (.int cq)] [(.int 2), (.ref q0)] t
    rw [show ((2 : Int32) + (1 : Int32)) = (3 : Int32) from by decide]
    refine XS.iloadN X10.here hx rfl (hb hby Ke) rfl ?_
    refine st11 _ ?_
    refine XS.ishr X11.here hx rfl (hb hby Me) rfl ?_
    refine XS.i2b X11.here hx rfl (hb hby Pe) rfl ?_
    refine st14 _ ?_
    show Ga p e below m T14 44 #[.val (.ref q0), .val (.int 3), .val (.int cq)] [] t
    refine XS.aloadN X14.here hx rfl (hb hby Ue) rfl rfl ?_
    refine XS.iloadN X14.here hx rfl (hb hby Ve) rfl ?_
    refine XS.iloadN X14.here hx rfl (hb hby We) rfl ?_
    refine st15 _ ?_
    refine XS.ishr X15.here hx rfl (hb hby Ze) rfl ?_
    refine XS.i2b X15.here hx rfl (hb hby Af) rfl ?_
    refine st18 _ ?_
    exact k
  obtain ⟨fs, hr, hrun, hended, hW, hsame⟩ := X18.leave (v := none) (fun _ => rfl)
  refine hNG ⟨_, _, k19 _ ?_, hrun, hended, _, _, rfl, ?_, ⟨_, rfl⟩, hW, hsame.mono (by decide) (by decide)⟩
  · exact X18.returnOut hx Bd.returns (hb hby Df) hr
  · show Pq Z q0 k0 cq x0 x1 x2 x3 Ba Aa h0 n0 _ T18.heap _
    rw [e18]
    exact ⟨rfl, N18, O18, K18, V18⟩
theorem Lx (m : MethodId) (x0 : Addr) (x1 : Int32) (x2 : Int32)  : entryFrame m #[(.ref x0), (.int x1), (.int x2)] 5 = mkF m 0 #[.val (.ref x0), .val (.int x1), .val (.int x2), .unset, .unset] [] := by first | (simp [entryFrame, mkF, argsToLocals, Value.category]; done) | rfl
def Is (Z : State) (t0 : Addr) (k0 : ClassId) (c0 : Int32) (c1 : Int32) (Ba : Int32) (Aa : Value) (h0 : Heap) (n0 : Nat) (v : Option Value) (h : Heap) (L : List Loc) : Prop := ∃ (b : Addr) (k : ClassId), v = some (.ref b) ∧ Fr n0 L ∧ Old Z n0 h ∧ Keep h0 h [] ∧ n0 ≤ b ∧ h0.size ≤ b ∧ Arv Z h b k .byte (4 : Int32) [(.int ((c0 >>> ((0 : Int32) &&& 31)).toInt8.toInt32)), (.int ((c0 >>> ((8 : Int32) &&& 31)).toInt8.toInt32)), (.int ((c1 >>> ((0 : Int32) &&& 31)).toInt8.toInt32)), (.int ((c1 >>> ((8 : Int32) &&& 31)).toInt8.toInt32))] (.int 0)
set_option maxRecDepth 65536 in
set_option maxHeartbeats 40000000 in
theorem Rq (l : Launch) (Z : State) (a0 : Array Value) (hw : ∀ d ∈ tables_1, d.before a0 Z = true) (ws : List Jvm.Cond) (t0 : Addr) (k0 : ClassId) (c0 : Int32) (c1 : Int32) (Ba : Int32) (Aa : Value) (h0 : Heap) (n0 : Nat) (O0 : Old Z n0 h0) (hE : EV Z Ba Aa) (P0 : Arv Z h0 t0 k0 .char (2 : Int32) [(.int c0), (.int c1)] (.int 0)) :
    MetFree l Am (head1 (Jvm.Cond.code Am jdk_52_method_14_code 5 (some (.array .byte)) :: ws) ({ frames := 2, cells := 1, slots := 4, locals := 24 } : Room)) (fun a U => a = #[(.ref t0), (.int 0), (.int 2)] ∧ Z.Warmed39 U.vm ∧ U.heap = h0) (fun _ _ _ _ _ => True) (fun _ U o U' => ∃ v L, o = .returned v ∧ Is Z t0 k0 c0 c1 Ba Aa h0 n0 v U'.heap L ∧ FrameEnd U o U' L ({ frames := 2, cells := 1, slots := 4, locals := 24 } : Room).cells ({ frames := 2, cells := 1, slots := 4, locals := 24 } : Room).slots) := by
  refine MetFree.of_bodySF (plainFor_of_name Pa) hisR ?_
  intro p e s m args below meth c s₁ Bd hml0 hP hK
  obtain ⟨rfl, hZ, hh⟩ := hP
  have hx := Bd.exec
  have hby := Bd.bytes
  have hml : c.maxLocals = 5 := hml0
  have hown : s.vm.findClass "java/lang/StringUTF16" = some m.cls := findClass_of_methodNamed Bd.named
  have hnm := (name_of_methodNamed Bd.named Bd.method).1
  have X00 : Stand p l e ({ frames := 2, cells := 1, slots := 4, locals := 24 } : Room) s m #[(.ref t0), (.int 0), (.int 2)] below meth c s₁ [] 0 0 := Stand.of_body Bd
  have e00 : s₁.heap = h0 := by rw [← hh, Bd.state]; rfl
  have N00 := Fr.nil n0
  refine Classical.byContradiction fun hNG => ?_
  have K00 := Keep.refl h0 []
  have k00 : ∀ t, Ga p e below m s₁ 0 #[.val (.ref t0), .val (.int 0), .val (.int 2), .unset, .unset] [] t → Ra p e below m s₁ #[(.ref t0), (.int 0), (.int 2)] 5 t := fun t k => castTop (Lx m t0 ((0 : Int32)) ((2 : Int32)) ) k
  obtain ⟨Ua, La, Va, Ma, Ha, Ia, Ka⟩ := (id hE : EV Z Ba Aa)
  obtain ⟨_, _, ⟨T10, L10, k10, n10⟩, -, X10, ⟨Lc10, hQ10, l10, y10, z10⟩, st10⟩ := Jvm.LawKit.callS X00 hx (y := Pm) hown (mvT hZ (Da hw 50 rfl)) (mvT hZ (Da hw 51 rfl)) (mvT hZ (Da hw 18 rfl)) (mvT hZ (Da hw 52 rfl)) (by decide) (backOf (W := 0) (Kx l Z a0 hw []  _ _ h0 n0 O0 hE  ) hZ (Da hw 52 rfl) (Da hw 18 rfl) (by decide) (by decide)) (g := (mkF m 1 #[.val (.ref t0), .val (.int 0), .val (.int 2), .unset, .unset] [(.int 2)])) rfl (by rw [hml]; rfl) (argsL := [(.int 2)]) (rest := []) (lenOf Zo rfl) rfl (by show 2 * 0 + _ ≤ _; exact Nat.le_of_eq rfl) (hb hby Hk) (fun _ _ => ⟨rfl, e00, (by decide : 0 + 1 ≤ _), (by decide : 0 + 4 ≤ _)⟩)
  dsimp only [Pt.U, Pt.locs, Pt.cells, Pt.slots] at X10 l10 y10 z10 st10 hQ10
  subst l10 y10 z10
  obtain ⟨b10, k10, rfl, N10q, O10, Kc10, g_b10, gs_b10, F10_0⟩ := hQ10
  have N10 := Fr.app N00 N10q
  have K10 := K00.trans Kc10 (fun x hx => nomatch hx)
  have s_b10 := Nat.le_trans K00.1 gs_b10
  have lt_b10 := F10_0.lt
  have f11 := (P0.keep Kc10 List.not_mem_nil)
  obtain ⟨cl12, Ar12, q12, Sz12, Nn12, Hs12, Gf12⟩ := id f11
  have hin13 : ¬ ((0 : Int32) < 0 ∨ cl12.slots.size ≤ ((0 : Int32)).toNatClampNeg) := inb_of Sz12 ⟨by decide, by decide⟩
  have hat14 : cl12.slots[((0 : Int32)).toNatClampNeg]? = some (.int c0) := Hs12.at hin13 rfl
  obtain ⟨_, _, ⟨T15, L15, k15, n15⟩, -, X15, ⟨Lc15, hQ15, l15, y15, z15⟩, st15⟩ := Jvm.LawKit.callS X10 hx (y := Gi) hown (mvT hZ (Da hw 57 rfl)) (mvT hZ (Da hw 58 rfl)) (mvT hZ (Da hw 18 rfl)) (mvT hZ (Da hw 59 rfl)) (by decide) (backOf (W := 0) (Lt l Z a0 hw [] b10 k10 c0 (0 : Int32) (0 : Int32) (0 : Int32) (0 : Int32) _ _ T10.heap n0 O10 hE F10_0 g_b10 ) hZ (Da hw 59 rfl) (Da hw 18 rfl) (by decide) (by decide)) (g := (mkF m 20 #[.val (.ref t0), .val (.int 0), .val (.int 2), .val (.ref b10), .val (.int 0)] [(.int c0), (.int 0), (.ref b10)])) rfl (by rw [hml]; rfl) (argsL := [(.ref b10), (.int 0), (.int c0)]) (rest := []) (lenOf Bm rfl) rfl (by show 2 * 0 + _ ≤ _; exact Nat.le_of_eq rfl) (hb hby Yc) (fun _ _ => ⟨rfl, rfl, (by decide : 1 + 0 ≤ _), (by decide : 4 + 0 ≤ _)⟩)
  dsimp only [Pt.U, Pt.locs, Pt.cells, Pt.slots] at X15 l15 y15 z15 st15 hQ15
  subst l15 y15 z15
  obtain ⟨rfl, N15q, O15, Kc15, F15_0⟩ := hQ15
  have N15 := Fr.app N10 N15q
  have K15 := K10.trans Kc15 (allS (Or.inr s_b10) all0)
  have ne16 : ¬ (t0 = b10) := (Nat.ne_of_lt (Nat.lt_of_lt_of_le P0.lt gs_b10))
  have f17 := (f11.keep Kc15 (fun q => ne16 (List.mem_singleton.mp q)))
  obtain ⟨cl18, Ar18, q18, Sz18, Nn18, Hs18, Gf18⟩ := id f17
  have hin19 : ¬ ((1 : Int32) < 0 ∨ cl18.slots.size ≤ ((1 : Int32)).toNatClampNeg) := inb_of Sz18 ⟨by decide, by decide⟩
  have hat20 : cl18.slots[((1 : Int32)).toNatClampNeg]? = some (.int c1) := Hs18.at hin19 rfl
  obtain ⟨_, _, ⟨T21, L21, k21, n21⟩, -, X21, ⟨Lc21, hQ21, l21, y21, z21⟩, st21⟩ := Jvm.LawKit.callS X15 hx (y := Gi) hown (mvT hZ (Da hw 57 rfl)) (mvT hZ (Da hw 58 rfl)) (mvT hZ (Da hw 18 rfl)) (mvT hZ (Da hw 59 rfl)) (by decide) (backOf (W := 0) (Rt l Z a0 hw [] b10 k10 c1 ((c0 >>> ((0 : Int32) &&& 31)).toInt8.toInt32) ((c0 >>> ((8 : Int32) &&& 31)).toInt8.toInt32) (0 : Int32) (0 : Int32) _ _ T15.heap n0 O15 hE F15_0 g_b10 ) hZ (Da hw 59 rfl) (Da hw 18 rfl) (by decide) (by decide)) (g := (mkF m 20 #[.val (.ref t0), .val (.int 1), .val (.int 2), .val (.ref b10), .val (.int 1)] [(.int c1), (.int 1), (.ref b10)])) rfl (by rw [hml]; rfl) (argsL := [(.ref b10), (.int 1), (.int c1)]) (rest := []) (lenOf Bm rfl) rfl (by show 2 * 0 + _ ≤ _; exact Nat.le_of_eq rfl) (hb hby Yc) (fun _ _ => ⟨rfl, rfl, (by decide : 1 + 0 ≤ _), (by decide : 4 + 0 ≤ _)⟩)
  dsimp only [Pt.U, Pt.locs, Pt.cells, Pt.slots] at X21 l21 y21 z21 st21 hQ21
  subst l21 y21 z21
  obtain ⟨rfl, N21q, O21, Kc21, F21_0⟩ := hQ21
  have N21 := Fr.app N15 N21q
  have K21 := K15.trans Kc21 (allS (Or.inr s_b10) all0)
  have k22 : ∀ t, Ga p e below m T21 33 #[.val (.ref t0), .val (.int 2), .val (.int 2), .val (.ref b10), .val (.int 2)] [(.ref b10)] t → Ra p e below m s₁ #[(.ref t0), (.int 0), (.int 2)] 5 t := by
    intro t k
    refine k00 t ?_
    refine XS.iloadN X00.here hx rfl (hb hby Gk) rfl ?_
    refine st10 _ ?_
    refine XS.astoreN X10.here hx rfl (hb hby Ik) rfl rfl (l' := #[.val (.ref t0), .val (.int 0), .val (.int 2), .val (.ref b10), .unset]) rfl ?_
    refine XS.iconst X10.here hx rfl (hb hby Kk) ?_
    refine XS.istore X10.here hx rfl (hb hby Lk) rfl (l' := #[.val (.ref t0), .val (.int 0), .val (.int 2), .val (.ref b10), .val (.int 0)]) rfl ?_
    refine XS.iload X10.here hx rfl (hb hby Lb) rfl ?_
    refine XS.iloadN X10.here hx rfl (hb hby Ya) rfl ?_
    refine XS.icmpNo X10.here hx rfl (hb hby Za) rfl (tlt (by decide : (0 : Int32) < (2 : Int32))).2.1 ?_
    show Ga p e below m T10 14 #[.val (.ref t0), .val (.int 0), .val (.int 2), .val (.ref b10), .val (.int 0)] [] t
    refine XS.aloadN X10.here hx rfl (hb hby Pc) rfl rfl ?_
    refine XS.iload X10.here hx rfl (hb hby Rc) rfl ?_
    refine XS.aloadN X10.here hx rfl (hb hby Uc) rfl rfl ?_
    refine XS.iloadN X10.here hx rfl (hb hby Vc) rfl ?_
    refine X10.caload hx (j := (0 : Int32)) (v := (.int c0)) (by exact Ar12.1) (State.isArrayOf_alike hZ.alike Ar12.2.1) Ar12.2.2 hin13 hat14 (g := (mkF m 19 #[.val (.ref t0), .val (.int 0), .val (.int 2), .val (.ref b10), .val (.int 0)] [(.int 0), (.ref t0), (.int 0), (.ref b10)])) rfl rfl (hb hby Wc) _ ?_
    refine st15 _ ?_
    refine XS.iinc X15.here hx rfl (hb hby Zc) rfl (l' := #[.val (.ref t0), .val (.int ((0 : Int32) + (1 : Int32))), .val (.int 2), .val (.ref b10), .val (.int 0)]) rfl ?_
    show Ga p e below m T15 26 #[.val (.ref t0), .val (.int ((0 : Int32) + (1 : Int32))), .val (.int 2), .val (.ref b10), .val (.int 0)] [] t
    rw [show ((0 : Int32) + (1 : Int32)) = (1 : Int32) from by decide]
    show Ga p e below m T15 26 #[.val (.ref t0), .val (.int 1), .val (.int 2), .val (.ref b10), .val (.int 0)] [] t
    refine XS.iinc X15.here hx rfl (hb hby Ad) rfl (l' := #[.val (.ref t0), .val (.int 1), .val (.int 2), .val (.ref b10), .val (.int ((0 : Int32) + (1 : Int32)))]) rfl ?_
    show Ga p e below m T15 29 #[.val (.ref t0), .val (.int 1), .val (.int 2), .val (.ref b10), .val (.int ((0 : Int32) + (1 : Int32)))] [] t
    rw [show ((0 : Int32) + (1 : Int32)) = (1 : Int32) from by decide]
    refine XS.goto X15.here hx rfl (pc0 := 29) (pc' := 8) rfl (hb hby Dd) (by decide) (by decide) ?_
    refine XS.iload X15.here hx rfl (hb hby Lb) rfl ?_
    refine XS.iloadN X15.here hx rfl (hb hby Ya) rfl ?_
    refine XS.icmpNo X15.here hx rfl (hb hby Za) rfl (tlt (by decide : (1 : Int32) < (2 : Int32))).2.1 ?_
    refine XS.aloadN X15.here hx rfl (hb hby Pc) rfl rfl ?_
    refine XS.iload X15.here hx rfl (hb hby Rc) rfl ?_
    show Ga p e below m T15 17 #[.val (.ref t0), .val (.int 1), .val (.int 2), .val (.ref b10), .val (.int 1)] [(.int 1), (.ref b10)] t
    refine XS.aloadN X15.here hx rfl (hb hby Uc) rfl rfl ?_
    refine XS.iloadN X15.here hx rfl (hb hby Vc) rfl ?_
    refine X15.caload hx (j := (1 : Int32)) (v := (.int c1)) (by exact Ar18.1) (State.isArrayOf_alike hZ.alike Ar18.2.1) Ar18.2.2 hin19 hat20 (g := (mkF m 19 #[.val (.ref t0), .val (.int 1), .val (.int 2), .val (.ref b10), .val (.int 1)] [(.int 1), (.ref t0), (.int 1), (.ref b10)])) rfl rfl (hb hby Wc) _ ?_
    refine st21 _ ?_
    refine XS.iinc X21.here hx rfl (hb hby Zc) rfl (l' := #[.val (.ref t0), .val (.int ((1 : Int32) + (1 : Int32))), .val (.int 2), .val (.ref b10), .val (.int 1)]) rfl ?_
    show Ga p e below m T21 26 #[.val (.ref t0), .val (.int ((1 : Int32) + (1 : Int32))), .val (.int 2), .val (.ref b10), .val (.int 1)] [] t
    rw [show ((1 : Int32) + (1 : Int32)) = (2 : Int32) from by decide]
    refine XS.iinc X21.here hx rfl (hb hby Ad) rfl (l' := #[.val (.ref t0), .val (.int 2), .val (.int 2), .val (.ref b10), .val (.int ((1 : Int32) + (1 : Int32)))]) rfl ?_
    show Ga p e below m T21 29 #[.val (.ref t0), .val (.int 2), .val (.int 2), .val (.ref b10), .val (.int ((1 : Int32) + (1 : Int32)))] [] t
    rw [show ((1 : Int32) + (1 : Int32)) = (2 : Int32) from by decide]
    show Ga p e below m T21 29 #[.val (.ref t0), .val (.int 2), .val (.int 2), .val (.ref b10), .val (.int 2)] [] t
    refine XS.goto X21.here hx rfl (pc0 := 29) (pc' := 8) rfl (hb hby Dd) (by decide) (by decide) ?_
    refine XS.iload X21.here hx rfl (hb hby Lb) rfl ?_
    refine XS.iloadN X21.here hx rfl (hb hby Ya) rfl ?_
    refine XS.icmpYes X21.here hx rfl (pc0 := 11) (pc' := 32) rfl (hb hby Za) rfl (flt (by decide : ¬ ((2 : Int32) < (2 : Int32)))).2.1 (by decide) (by decide) ?_
    refine XS.aloadN X21.here hx rfl (hb hby Bj) rfl rfl ?_
    exact k
  obtain ⟨fs, hr, hrun, hended, hW, hsame⟩ := X21.leave (v := some (.ref b10)) (fun h => by rw [Bd.returns] at h; cases h)
  refine hNG ⟨_, _, k22 _ ?_, hrun, hended, _, _, rfl, ?_, ⟨_, rfl⟩, hW, hsame.mono (by decide) (by decide)⟩
  · exact retOut X21 hx (t := (.array .byte)) Bd.returns rfl (Or.inr (Or.inr (Or.inr (Or.inr ⟨rfl, rfl, rfl⟩)))) (hb hby Dj) hr
  · show Is Z t0 k0 c0 c1 Ba Aa h0 n0 _ T21.heap _
    exact ⟨b10, k10, rfl, N21, O21, K21, g_b10, s_b10, F21_0⟩
theorem Ut (m : MethodId) (x0 : Addr) (x1 : Int32)  : entryFrame m #[(.ref x0), (.int x1)] 2 = mkF m 0 #[.val (.ref x0), .val (.int x1)] [] := by first | (simp [entryFrame, mkF, argsToLocals, Value.category]; done) | rfl
def Uq (Z : State) (q0 : Addr) (k0 : ClassId) (x0 : Int32) (x1 : Int32) (x2 : Int32) (x3 : Int32) (Ba : Int32) (Aa : Value) (h0 : Heap) (n0 : Nat) (v : Option Value) (h : Heap) (L : List Loc) : Prop := v = some (.int ((((x0 &&& (255 : Int32)) <<< ((0 : Int32) &&& 31)) ||| ((x1 &&& (255 : Int32)) <<< ((8 : Int32) &&& 31))).toUInt32.toUInt16.toUInt32.toInt32)) ∧ Fr n0 L ∧ h = h0
set_option maxRecDepth 65536 in
set_option maxHeartbeats 40000000 in
theorem Vt (l : Launch) (Z : State) (a0 : Array Value) (hw : ∀ d ∈ tables_1, d.before a0 Z = true) (ws : List Jvm.Cond) (q0 : Addr) (k0 : ClassId) (x0 : Int32) (x1 : Int32) (x2 : Int32) (x3 : Int32) (Ba : Int32) (Aa : Value) (h0 : Heap) (n0 : Nat) (O0 : Old Z n0 h0) (hE : EV Z Ba Aa) (P0 : Arv Z h0 q0 k0 .byte (4 : Int32) [(.int x0), (.int x1), (.int x2), (.int x3)] (.int 0)) :
    MetFree l Hi (head1 (Jvm.Cond.code Hi jdk_52_method_5_code 2 (some .char) :: ws) ({ frames := 0, cells := 0, slots := 0, locals := 0 } : Room)) (fun a U => a = #[(.ref q0), (.int 0)] ∧ Z.Warmed39 U.vm ∧ U.heap = h0) (fun _ _ _ _ _ => True) (fun _ U o U' => ∃ v L, o = .returned v ∧ Uq Z q0 k0 x0 x1 x2 x3 Ba Aa h0 n0 v U'.heap L ∧ FrameEnd U o U' L ({ frames := 0, cells := 0, slots := 0, locals := 0 } : Room).cells ({ frames := 0, cells := 0, slots := 0, locals := 0 } : Room).slots) := by
  refine MetFree.of_bodySF (plainFor_of_name Pa) hisR ?_
  intro p e s m args below meth c s₁ Bd hml0 hP hK
  obtain ⟨rfl, hZ, hh⟩ := hP
  have hx := Bd.exec
  have hby := Bd.bytes
  have hml : c.maxLocals = 2 := hml0
  have hown : s.vm.findClass "java/lang/StringUTF16" = some m.cls := findClass_of_methodNamed Bd.named
  have hnm := (name_of_methodNamed Bd.named Bd.method).1
  have X00 : Stand p l e ({ frames := 0, cells := 0, slots := 0, locals := 0 } : Room) s m #[(.ref q0), (.int 0)] below meth c s₁ [] 0 0 := Stand.of_body Bd
  have e00 : s₁.heap = h0 := by rw [← hh, Bd.state]; rfl
  have N00 := Fr.nil n0
  refine Classical.byContradiction fun hNG => ?_
  have K00 := Keep.refl h0 []
  have k00 : ∀ t, Ga p e below m s₁ 0 #[.val (.ref q0), .val (.int 0)] [] t → Ra p e below m s₁ #[(.ref q0), (.int 0)] 2 t := fun t k => castTop (Ut m q0 ((0 : Int32)) ) k
  obtain ⟨Ua, La, Va, Ma, Ha, Ia, Ka⟩ := (id hE : EV Z Ba Aa)
  obtain ⟨T10, X10, e10, st10⟩ := getS2 X00 hx hZ hown (host := "") (Or.inl (Da hw 60 rfl)) Via.refl e00 (Ha.ext O0.2) (g := (mkF m 0 #[.val (.ref q0), .val (.int 0)] [])) rfl (hb hby Vg)
  obtain ⟨cl11, Ar11, q11, Sz11, Nn11, Hs11, Gf11⟩ := id P0
  have hin12 : ¬ ((0 : Int32) < 0 ∨ cl11.slots.size ≤ ((0 : Int32)).toNatClampNeg) := inb_of Sz11 ⟨by decide, by decide⟩
  have hat13 : cl11.slots[((0 : Int32)).toNatClampNeg]? = some (.int x0) := Hs11.at hin12 rfl
  obtain ⟨T14, X14, e14, st14⟩ := getS2 X10 hx hZ hown (host := "") (Or.inl (Da hw 61 rfl)) Via.refl e10 (Ia.ext O0.2) (g := (mkF m 42 #[.val (.ref q0), .val (.int 1)] [(.int (x0 &&& (255 : Int32)))])) rfl (hb hby Yf)
  obtain ⟨cl15, Ar15, q15, Sz15, Nn15, Hs15, Gf15⟩ := id P0
  have hin16 : ¬ ((1 : Int32) < 0 ∨ cl15.slots.size ≤ ((1 : Int32)).toNatClampNeg) := inb_of Sz15 ⟨by decide, by decide⟩
  have hat17 : cl15.slots[((1 : Int32)).toNatClampNeg]? = some (.int x1) := Hs15.at hin16 rfl
  obtain ⟨T18, X18, e18, st18⟩ := getS2 X14 hx hZ hown (host := "") (Or.inl (Da hw 62 rfl)) Via.refl e14 (Ka.ext O0.2) (g := (mkF m 53 #[.val (.ref q0), .val (.int 1)] [(.int (x1 &&& (255 : Int32))), (.int ((x0 &&& (255 : Int32)) <<< ((0 : Int32) &&& 31)))])) rfl (hb hby Ig)
  have k19 : ∀ t, Ga p e below m T18 59 #[.val (.ref q0), .val (.int 1)] [(.int ((((x0 &&& (255 : Int32)) <<< ((0 : Int32) &&& 31)) ||| ((x1 &&& (255 : Int32)) <<< ((8 : Int32) &&& 31))).toUInt32.toUInt16.toUInt32.toInt32))] t → Ra p e below m s₁ #[(.ref q0), (.int 0)] 2 t := by
    intro t k
    refine k00 t ?_
    refine st10 _ ?_
    refine XS.ifYes X10.here hx rfl (pc0 := 3) (pc' := 28) rfl (hb hby Wg) rfl ((if0 _ _).trans (feq (by decide : ¬ ((1 : Int32) = (0 : Int32)))).2) (by decide) (by decide) ?_
    refine XS.iloadN X10.here hx rfl (hb hby Gf) rfl ?_
    refine XS.iconst X10.here hx rfl (hb hby Hf) ?_
    refine XS.ishl X10.here hx rfl (hb hby Kf) rfl ?_
    show Ga p e below m T10 31 #[.val (.ref q0), .val (.int 0)] [(.int ((0 : Int32) <<< ((1 : Int32) &&& 31)))] t
    rw [show ((0 : Int32) <<< ((1 : Int32) &&& 31)) = (0 : Int32) from by decide]
    refine XS.istoreN X10.here hx rfl (hb hby Lf) rfl (l' := #[.val (.ref q0), .val (.int 0)]) rfl ?_
    refine XS.aloadN X10.here hx rfl (hb hby Mf) rfl rfl ?_
    show Ga p e below m T10 33 #[.val (.ref q0), .val (.int 0)] [(.ref q0)] t
    refine XS.iloadN X10.here hx rfl (hb hby Pf) rfl ?_
    refine XS.iinc X10.here hx rfl (hb hby Rf) rfl (l' := #[.val (.ref q0), .val (.int ((0 : Int32) + (1 : Int32)))]) rfl ?_
    show Ga p e below m T10 37 #[.val (.ref q0), .val (.int ((0 : Int32) + (1 : Int32)))] [(.int 0), (.ref q0)] t
    rw [show ((0 : Int32) + (1 : Int32)) = (1 : Int32) from by decide]
    refine X10.baloadBytes hx (j := (0 : Int32)) (v := (.int x0)) (by rw [e10]; exact Ar11.1) (State.isArrayOf_alike hZ.alike Ar11.2.1) Ar11.2.2 hin12 hat13 (g := (mkF m 37 #[.val (.ref q0), .val (.int 1)] [(.int 0), (.ref q0)])) rfl rfl (hb hby Uf) _ ?_
    refine XS.sipush X10.here hx rfl (hb hby Vf) ?_
    refine XS.iand X10.here hx rfl (hb hby Wf) rfl ?_
    refine st14 _ ?_
    refine XS.ishl X14.here hx rfl (hb hby Zf) rfl ?_
    show Ga p e below m T14 46 #[.val (.ref q0), .val (.int 1)] [(.int ((x0 &&& (255 : Int32)) <<< ((0 : Int32) &&& 31)))] t
    refine XS.aloadN X14.here hx rfl (hb hby Ag) rfl rfl ?_
    refine XS.iloadN X14.here hx rfl (hb hby Bg) rfl ?_
    refine X14.baloadBytes hx (j := (1 : Int32)) (v := (.int x1)) (by rw [e14]; exact Ar15.1) (State.isArrayOf_alike hZ.alike Ar15.2.1) Ar15.2.2 hin16 hat17 (g := (mkF m 48 #[.val (.ref q0), .val (.int 1)] [(.int 1), (.ref q0), (.int ((x0 &&& (255 : Int32)) <<< ((0 : Int32) &&& 31)))])) rfl rfl (hb hby Dg) _ ?_
    refine XS.sipush X14.here hx rfl (hb hby Gg) ?_
    refine XS.iand X14.here hx rfl (hb hby Hg) rfl ?_
    refine st18 _ ?_
    refine XS.ishl X18.here hx rfl (hb hby Kg) rfl ?_
    refine XS.ior X18.here hx rfl (hb hby Lg) rfl ?_
    show Ga p e below m T18 58 #[.val (.ref q0), .val (.int 1)] [(.int (((x0 &&& (255 : Int32)) <<< ((0 : Int32) &&& 31)) ||| ((x1 &&& (255 : Int32)) <<< ((8 : Int32) &&& 31))))] t
    refine XS.i2c X18.here hx rfl (hb hby Mg) rfl ?_
    exact k
  obtain ⟨fs, hr, hrun, hended, hW, hsame⟩ := X18.leave (v := some (.int ((((x0 &&& (255 : Int32)) <<< ((0 : Int32) &&& 31)) ||| ((x1 &&& (255 : Int32)) <<< ((8 : Int32) &&& 31))).toUInt32.toUInt16.toUInt32.toInt32))) (fun h => by rw [Bd.returns] at h; cases h)
  refine hNG ⟨_, _, k19 _ ?_, hrun, hended, _, _, rfl, ?_, ⟨_, rfl⟩, hW, hsame.mono (by decide) (by decide)⟩
  · exact retN X18 hx (t := .char) Bd.returns (by simp) (hb hby Pg) (by first | exact hr | (rw [show nar .char ((((x0 &&& (255 : Int32)) <<< ((0 : Int32) &&& 31)) ||| ((x1 &&& (255 : Int32)) <<< ((8 : Int32) &&& 31))).toUInt32.toUInt16.toUInt32.toInt32) = ((((x0 &&& (255 : Int32)) <<< ((0 : Int32) &&& 31)) ||| ((x1 &&& (255 : Int32)) <<< ((8 : Int32) &&& 31))).toUInt32.toUInt16.toUInt32.toInt32) from by first | rfl | exact Wi _ | decide]; exact hr))
  · show Uq Z q0 k0 x0 x1 x2 x3 Ba Aa h0 n0 _ T18.heap _
    rw [e18]
    exact ⟨rfl, N00, rfl⟩
theorem Wt (m : MethodId) (x0 : Addr) (x1 : Int32)  : entryFrame m #[(.ref x0), (.int x1)] 2 = mkF m 0 #[.val (.ref x0), .val (.int x1)] [] := by first | (simp [entryFrame, mkF, argsToLocals, Value.category]; done) | rfl
def Vq (Z : State) (q0 : Addr) (k0 : ClassId) (x0 : Int32) (x1 : Int32) (x2 : Int32) (x3 : Int32) (Ba : Int32) (Aa : Value) (h0 : Heap) (n0 : Nat) (v : Option Value) (h : Heap) (L : List Loc) : Prop := v = some (.int ((((x2 &&& (255 : Int32)) <<< ((0 : Int32) &&& 31)) ||| ((x3 &&& (255 : Int32)) <<< ((8 : Int32) &&& 31))).toUInt32.toUInt16.toUInt32.toInt32)) ∧ Fr n0 L ∧ h = h0
set_option maxRecDepth 65536 in
set_option maxHeartbeats 40000000 in
theorem Yt (l : Launch) (Z : State) (a0 : Array Value) (hw : ∀ d ∈ tables_1, d.before a0 Z = true) (ws : List Jvm.Cond) (q0 : Addr) (k0 : ClassId) (x0 : Int32) (x1 : Int32) (x2 : Int32) (x3 : Int32) (Ba : Int32) (Aa : Value) (h0 : Heap) (n0 : Nat) (O0 : Old Z n0 h0) (hE : EV Z Ba Aa) (P0 : Arv Z h0 q0 k0 .byte (4 : Int32) [(.int x0), (.int x1), (.int x2), (.int x3)] (.int 0)) :
    MetFree l Hi (head1 (Jvm.Cond.code Hi jdk_52_method_5_code 2 (some .char) :: ws) ({ frames := 0, cells := 0, slots := 0, locals := 0 } : Room)) (fun a U => a = #[(.ref q0), (.int 1)] ∧ Z.Warmed39 U.vm ∧ U.heap = h0) (fun _ _ _ _ _ => True) (fun _ U o U' => ∃ v L, o = .returned v ∧ Vq Z q0 k0 x0 x1 x2 x3 Ba Aa h0 n0 v U'.heap L ∧ FrameEnd U o U' L ({ frames := 0, cells := 0, slots := 0, locals := 0 } : Room).cells ({ frames := 0, cells := 0, slots := 0, locals := 0 } : Room).slots) := by
  refine MetFree.of_bodySF (plainFor_of_name Pa) hisR ?_
  intro p e s m args below meth c s₁ Bd hml0 hP hK
  obtain ⟨rfl, hZ, hh⟩ := hP
  have hx := Bd.exec
  have hby := Bd.bytes
  have hml : c.maxLocals = 2 := hml0
  have hown : s.vm.findClass "java/lang/StringUTF16" = some m.cls := findClass_of_methodNamed Bd.named
  have hnm := (name_of_methodNamed Bd.named Bd.method).1
  have X00 : Stand p l e ({ frames := 0, cells := 0, slots := 0, locals := 0 } : Room) s m #[(.ref q0), (.int 1)] below meth c s₁ [] 0 0 := Stand.of_body Bd
  have e00 : s₁.heap = h0 := by rw [← hh, Bd.state]; rfl
  have N00 := Fr.nil n0
  refine Classical.byContradiction fun hNG => ?_
  have K00 := Keep.refl h0 []
  have k00 : ∀ t, Ga p e below m s₁ 0 #[.val (.ref q0), .val (.int 1)] [] t → Ra p e below m s₁ #[(.ref q0), (.int 1)] 2 t := fun t k => castTop (Wt m q0 ((1 : Int32)) ) k
  obtain ⟨Ua, La, Va, Ma, Ha, Ia, Ka⟩ := (id hE : EV Z Ba Aa)
  obtain ⟨T10, X10, e10, st10⟩ := getS2 X00 hx hZ hown (host := "") (Or.inl (Da hw 60 rfl)) Via.refl e00 (Ha.ext O0.2) (g := (mkF m 0 #[.val (.ref q0), .val (.int 1)] [])) rfl (hb hby Vg)
  obtain ⟨cl11, Ar11, q11, Sz11, Nn11, Hs11, Gf11⟩ := id P0
  have hin12 : ¬ ((2 : Int32) < 0 ∨ cl11.slots.size ≤ ((2 : Int32)).toNatClampNeg) := inb_of Sz11 ⟨by decide, by decide⟩
  have hat13 : cl11.slots[((2 : Int32)).toNatClampNeg]? = some (.int x2) := Hs11.at hin12 rfl
  obtain ⟨T14, X14, e14, st14⟩ := getS2 X10 hx hZ hown (host := "") (Or.inl (Da hw 61 rfl)) Via.refl e10 (Ia.ext O0.2) (g := (mkF m 42 #[.val (.ref q0), .val (.int 3)] [(.int (x2 &&& (255 : Int32)))])) rfl (hb hby Yf)
  obtain ⟨cl15, Ar15, q15, Sz15, Nn15, Hs15, Gf15⟩ := id P0
  have hin16 : ¬ ((3 : Int32) < 0 ∨ cl15.slots.size ≤ ((3 : Int32)).toNatClampNeg) := inb_of Sz15 ⟨by decide, by decide⟩
  have hat17 : cl15.slots[((3 : Int32)).toNatClampNeg]? = some (.int x3) := Hs15.at hin16 rfl
  obtain ⟨T18, X18, e18, st18⟩ := getS2 X14 hx hZ hown (host := "") (Or.inl (Da hw 62 rfl)) Via.refl e14 (Ka.ext O0.2) (g := (mkF m 53 #[.val (.ref q0), .val (.int 3)] [(.int (x3 &&& (255 : Int32))), (.int ((x2 &&& (255 : Int32)) <<< ((0 : Int32) &&& 31)))])) rfl (hb hby Ig)
  have k19 : ∀ t, Ga p e below m T18 59 #[.val (.ref q0), .val (.int 3)] [(.int ((((x2 &&& (255 : Int32)) <<< ((0 : Int32) &&& 31)) ||| ((x3 &&& (255 : Int32)) <<< ((8 : Int32) &&& 31))).toUInt32.toUInt16.toUInt32.toInt32))] t → Ra p e below m s₁ #[(.ref q0), (.int 1)] 2 t := by
    intro t k
    refine k00 t ?_
    refine st10 _ ?_
    refine XS.ifYes X10.here hx rfl (pc0 := 3) (pc' := 28) rfl (hb hby Wg) rfl ((if0 _ _).trans (feq (by decide : ¬ ((1 : Int32) = (0 : Int32)))).2) (by decide) (by decide) ?_
    refine XS.iloadN X10.here hx rfl (hb hby Gf) rfl ?_
    refine XS.iconst X10.here hx rfl (hb hby Hf) ?_
    refine XS.ishl X10.here hx rfl (hb hby Kf) rfl ?_
    show Ga p e below m T10 31 #[.val (.ref q0), .val (.int 1)] [(.int ((1 : Int32) <<< ((1 : Int32) &&& 31)))] t
    rw [show ((1 : Int32) <<< ((1 : Int32) &&& 31)) = (2 : Int32) from by decide]
    refine XS.istoreN X10.here hx rfl (hb hby Lf) rfl (l' := #[.val (.ref q0), .val (.int 2)]) rfl ?_
    refine XS.aloadN X10.here hx rfl (hb hby Mf) rfl rfl ?_
    show Ga p e below m T10 33 #[.val (.ref q0), .val (.int 2)] [(.ref q0)] t
    refine XS.iloadN X10.here hx rfl (hb hby Pf) rfl ?_
    refine XS.iinc X10.here hx rfl (hb hby Rf) rfl (l' := #[.val (.ref q0), .val (.int ((2 : Int32) + (1 : Int32)))]) rfl ?_
    show Ga p e below m T10 37 #[.val (.ref q0), .val (.int ((2 : Int32) + (1 : Int32)))] [(.int 2), (.ref q0)] t
    rw [show ((2 : Int32) + (1 : Int32)) = (3 : Int32) from by decide]
    refine X10.baloadBytes hx (j := (2 : Int32)) (v := (.int x2)) (by rw [e10]; exact Ar11.1) (State.isArrayOf_alike hZ.alike Ar11.2.1) Ar11.2.2 hin12 hat13 (g := (mkF m 37 #[.val (.ref q0), .val (.int 3)] [(.int 2), (.ref q0)])) rfl rfl (hb hby Uf) _ ?_
    refine XS.sipush X10.here hx rfl (hb hby Vf) ?_
    refine XS.iand X10.here hx rfl (hb hby Wf) rfl ?_
    refine st14 _ ?_
    refine XS.ishl X14.here hx rfl (hb hby Zf) rfl ?_
    show Ga p e below m T14 46 #[.val (.ref q0), .val (.int 3)] [(.int ((x2 &&& (255 : Int32)) <<< ((0 : Int32) &&& 31)))] t
    refine XS.aloadN X14.here hx rfl (hb hby Ag) rfl rfl ?_
    refine XS.iloadN X14.here hx rfl (hb hby Bg) rfl ?_
    refine X14.baloadBytes hx (j := (3 : Int32)) (v := (.int x3)) (by rw [e14]; exact Ar15.1) (State.isArrayOf_alike hZ.alike Ar15.2.1) Ar15.2.2 hin16 hat17 (g := (mkF m 48 #[.val (.ref q0), .val (.int 3)] [(.int 3), (.ref q0), (.int ((x2 &&& (255 : Int32)) <<< ((0 : Int32) &&& 31)))])) rfl rfl (hb hby Dg) _ ?_
    refine XS.sipush X14.here hx rfl (hb hby Gg) ?_
    refine XS.iand X14.here hx rfl (hb hby Hg) rfl ?_
    refine st18 _ ?_
    refine XS.ishl X18.here hx rfl (hb hby Kg) rfl ?_
    refine XS.ior X18.here hx rfl (hb hby Lg) rfl ?_
    show Ga p e below m T18 58 #[.val (.ref q0), .val (.int 3)] [(.int (((x2 &&& (255 : Int32)) <<< ((0 : Int32) &&& 31)) ||| ((x3 &&& (255 : Int32)) <<< ((8 : Int32) &&& 31))))] t
    refine XS.i2c X18.here hx rfl (hb hby Mg) rfl ?_
    exact k
  obtain ⟨fs, hr, hrun, hended, hW, hsame⟩ := X18.leave (v := some (.int ((((x2 &&& (255 : Int32)) <<< ((0 : Int32) &&& 31)) ||| ((x3 &&& (255 : Int32)) <<< ((8 : Int32) &&& 31))).toUInt32.toUInt16.toUInt32.toInt32))) (fun h => by rw [Bd.returns] at h; cases h)
  refine hNG ⟨_, _, k19 _ ?_, hrun, hended, _, _, rfl, ?_, ⟨_, rfl⟩, hW, hsame.mono (by decide) (by decide)⟩
  · exact retN X18 hx (t := .char) Bd.returns (by simp) (hb hby Pg) (by first | exact hr | (rw [show nar .char ((((x2 &&& (255 : Int32)) <<< ((0 : Int32) &&& 31)) ||| ((x3 &&& (255 : Int32)) <<< ((8 : Int32) &&& 31))).toUInt32.toUInt16.toUInt32.toInt32) = ((((x2 &&& (255 : Int32)) <<< ((0 : Int32) &&& 31)) ||| ((x3 &&& (255 : Int32)) <<< ((8 : Int32) &&& 31))).toUInt32.toUInt16.toUInt32.toInt32) from by first | rfl | exact Wi _ | decide]; exact hr))
  · show Vq Z q0 k0 x0 x1 x2 x3 Ba Aa h0 n0 _ T18.heap _
    rw [e18]
    exact ⟨rfl, N00, rfl⟩
theorem Mx (m : MethodId) (x0 : Addr) (x1 : Int32) (x2 : Int32)  : entryFrame m #[(.ref x0), (.int x1), (.int x2)] 6 = mkF m 0 #[.val (.ref x0), .val (.int x1), .val (.int x2), .unset, .unset, .unset] [] := by first | (simp [entryFrame, mkF, argsToLocals, Value.category]; done) | rfl
def Mp (Z : State) (t0 : Addr) (k0 : ClassId) (c0 : Int32) (c1 : Int32) (Ba : Int32) (Aa : Value) (h0 : Heap) (n0 : Nat) (v : Option Value) (h : Heap) (L : List Loc) : Prop := ∃ (b : Addr) (z : Int32) (k : ClassId) (vs : List Value), v = some (.ref b) ∧ Fr n0 L ∧ Old Z n0 h ∧ Keep h0 h [] ∧ n0 ≤ b ∧ h0.size ≤ b ∧ Arv Z h b k .byte z vs (.int 0) ∧ ((z = (2 : Int32) ∨ z = (4 : Int32)))
set_option maxRecDepth 65536 in
set_option maxHeartbeats 40000000 in
theorem Px (l : Launch) (Z : State) (a0 : Array Value) (hw : ∀ d ∈ tables_1, d.before a0 Z = true) (ws : List Jvm.Cond) (t0 : Addr) (k0 : ClassId) (c0 : Int32) (c1 : Int32) (Ba : Int32) (Aa : Value) (h0 : Heap) (n0 : Nat) (O0 : Old Z n0 h0) (hE : EV Z Ba Aa) (P0 : Arv Z h0 t0 k0 .char (2 : Int32) [(.int c0), (.int c1)] (.int 0)) (lo0 : ¬ c0 < 0) (hi0 : ¬ (65535 : Int32) < c0) (lo1 : ¬ c1 < 0) (hi1 : ¬ (65535 : Int32) < c1) :
    MetFree l Rm (head1 (Jvm.Cond.code Rm jdk_52_method_16_code 6 (some (.array .byte)) :: ws) ({ frames := 3, cells := 2, slots := 6, locals := 40 } : Room)) (fun a U => a = #[(.ref t0), (.int 0), (.int 2)] ∧ Z.Warmed39 U.vm ∧ U.heap = h0) (fun _ _ _ _ _ => True) (fun _ U o U' => ∃ v L, o = .returned v ∧ Mp Z t0 k0 c0 c1 Ba Aa h0 n0 v U'.heap L ∧ FrameEnd U o U' L ({ frames := 3, cells := 2, slots := 6, locals := 40 } : Room).cells ({ frames := 3, cells := 2, slots := 6, locals := 40 } : Room).slots) := by
  refine MetFree.of_bodySF (plainFor_of_name Pa) hisR ?_
  intro p e s m args below meth c s₁ Bd hml0 hP hK
  obtain ⟨rfl, hZ, hh⟩ := hP
  have hx := Bd.exec
  have hby := Bd.bytes
  have hml : c.maxLocals = 6 := hml0
  have hown : s.vm.findClass "java/lang/StringUTF16" = some m.cls := findClass_of_methodNamed Bd.named
  have hnm := (name_of_methodNamed Bd.named Bd.method).1
  have X00 : Stand p l e ({ frames := 3, cells := 2, slots := 6, locals := 40 } : Room) s m #[(.ref t0), (.int 0), (.int 2)] below meth c s₁ [] 0 0 := Stand.of_body Bd
  have e00 : s₁.heap = h0 := by rw [← hh, Bd.state]; rfl
  have N00 := Fr.nil n0
  refine Classical.byContradiction fun hNG => ?_
  have K00 := Keep.refl h0 []
  have k00 : ∀ t, Ga p e below m s₁ 0 #[.val (.ref t0), .val (.int 0), .val (.int 2), .unset, .unset, .unset] [] t → Ra p e below m s₁ #[(.ref t0), (.int 0), (.int 2)] 6 t := fun t k => castTop (Mx m t0 ((0 : Int32)) ((2 : Int32)) ) k
  obtain ⟨Ua, La, Va, Ma, Ha, Ia, Ka⟩ := (id hE : EV Z Ba Aa)
  obtain ⟨T10, h10, c10, X10, e10, E10, A10, st10⟩ := newP X00 hx hZ (Da hw 20 rfl) e00 (g := (mkF m 1 #[.val (.ref t0), .val (.int 0), .val (.int 2), .unset, .unset, .unset] [(.int 2)])) rfl (hb hby Pk) rfl (by decide) (cap := 2) (by decide) (by decide) (by decide) (by decide)
  obtain ⟨b10, g10⟩ : ∃ z, z = h0.size := ⟨_, rfl⟩
  rw [← g10] at A10 st10
  have O10 := O0.ext E10
  have g_b10 : n0 ≤ b10 := Nat.le_trans (Nat.le_of_eq O0.1.symm) (Nat.le_trans O0.2.1 (Nat.le_of_eq g10.symm))
  have s_b10 : h0.size ≤ b10 := Nat.le_trans K00.1 (Nat.le_of_eq g10.symm)
  have K10 := K00.ext E10
  have V10 : Arv Z h10 b10 c10 .byte (2 : Int32) [(.int 0), (.int 0)] (.int 0) := (Arv.new A10 (by decide)).pad (pad_rep [] (.int 0) 2)
  have lt_b10 := V10.lt
  have ne11 : ¬ (t0 = b10) := (Nat.ne_of_lt (Nat.lt_of_lt_of_le P0.lt (Nat.le_of_eq g10.symm)))
  have f12 := (P0.ext E10)
  obtain ⟨_, _, ⟨T13, L13, k13, n13⟩, -, X13, ⟨Lc13, hQ13, l13, y13, z13⟩, st13⟩ := Jvm.LawKit.callS X10 hx (y := Lm) hown (mvT hZ (Da hw 21 rfl)) (mvT hZ (Da hw 22 rfl)) (mvT hZ (Da hw 18 rfl)) (mvT hZ (Da hw 23 rfl)) (by decide) (backOf (W := 0) (Hx l Z a0 hw [] t0 b10 k0 c10 c0 c1 _ _ h10 n0 O10 hE f12 V10 g_b10 ne11) hZ (Da hw 23 rfl) (Da hw 18 rfl) (by decide) (by decide)) (g := (mkF m 9 #[.val (.ref t0), .val (.int 0), .val (.int 2), .val (.ref b10), .unset, .unset] [(.int 2), (.int 0), (.ref b10), (.int 0), (.ref t0)])) rfl (by rw [hml]; rfl) (argsL := [(.ref t0), (.int 0), (.ref b10), (.int 0), (.int 2)]) (rest := []) (lenOf Dn rfl) rfl (by show 2 * 0 + _ ≤ _; exact Nat.le_of_eq rfl) (hb hby Al) (fun _ _ => ⟨rfl, e10, (by decide : 1 + 0 ≤ _), (by decide : 2 + 0 ≤ _)⟩)
  dsimp only [Pt.U, Pt.locs, Pt.cells, Pt.slots] at X13 l13 y13 z13 st13 hQ13
  subst l13 y13 z13
  obtain ⟨kk13, vs13, rfl, N13q, O13, Kc13, F13_0, D13_0⟩ := hQ13
  have N13 := Fr.app N00 N13q
  have K13 := K10.trans Kc13 (allS (Or.inr s_b10) all0)
  have k14 : ∀ t, Ga p e below m T13 12 #[.val (.ref t0), .val (.int 0), .val (.int 2), .val (.ref b10), .unset, .unset] [(.int kk13)] t → Ra p e below m s₁ #[(.ref t0), (.int 0), (.int 2)] 6 t := by
    intro t k
    refine k00 t ?_
    refine XS.iloadN X00.here hx rfl (hb hby Mk) rfl ?_
    refine st10 _ ?_
    refine XS.astoreN X10.here hx rfl (hb hby Rk) rfl rfl (l' := #[.val (.ref t0), .val (.int 0), .val (.int 2), .val (.ref b10), .unset, .unset]) rfl ?_
    refine XS.aloadN X10.here hx rfl (hb hby Uk) rfl rfl ?_
    refine XS.iloadN X10.here hx rfl (hb hby Vk) rfl ?_
    refine XS.aloadN X10.here hx rfl (hb hby Wk) rfl rfl ?_
    refine XS.iconst X10.here hx rfl (hb hby Yk) ?_
    refine XS.iloadN X10.here hx rfl (hb hby Zk) rfl ?_
    show Ga p e below m T10 9 #[.val (.ref t0), .val (.int 0), .val (.int 2), .val (.ref b10), .unset, .unset] [(.int 2), (.int 0), (.ref b10), (.int 0), (.ref t0)] t
    refine st13 _ ?_
    exact k
  rcases D13_0 with hq | ⟨hq, hb15⟩ | ⟨hq, hb15⟩
  · have k16 : ∀ t, Ga p e below m T13 12 #[.val (.ref t0), .val (.int 0), .val (.int 2), .val (.ref b10), .unset, .unset] [(.int 2)] t → Ra p e below m s₁ #[(.ref t0), (.int 0), (.int 2)] 6 t := by
      intro t k
      refine k14 t ?_
      rw [hq]
      exact k
    have k17 : ∀ t, Ga p e below m T13 58 #[.val (.ref t0), .val (.int 0), .val (.int 2), .val (.ref b10), .val (.int 2), .unset] [(.ref b10)] t → Ra p e below m s₁ #[(.ref t0), (.int 0), (.int 2)] 6 t := by
      intro t k
      refine k16 t ?_
      refine XS.istore X13.here hx rfl (hb hby Ab) rfl (l' := #[.val (.ref t0), .val (.int 0), .val (.int 2), .val (.ref b10), .val (.int 2), .unset]) rfl ?_
      refine XS.iload X13.here hx rfl (hb hby Bb) rfl ?_
      refine XS.iloadN X13.here hx rfl (hb hby Db) rfl ?_
      refine XS.icmpYes X13.here hx rfl (pc0 := 17) (pc' := 57) rfl (hb hby Gb) rfl (teq (by decide : (2 : Int32) = (2 : Int32))).1 (by decide) (by decide) ?_
      refine XS.aloadN X13.here hx rfl (hb hby Gj) rfl rfl ?_
      exact k
    obtain ⟨fs, hr, hrun, hended, hW, hsame⟩ := X13.leave (v := some (.ref b10)) (fun h => by rw [Bd.returns] at h; cases h)
    refine hNG ⟨_, _, k17 _ ?_, hrun, hended, _, _, rfl, ?_, ⟨_, rfl⟩, hW, hsame.mono (by decide) (by decide)⟩
    · exact retOut X13 hx (t := (.array .byte)) Bd.returns rfl (Or.inr (Or.inr (Or.inr (Or.inr ⟨rfl, rfl, rfl⟩)))) (hb hby Hj) hr
    · show Mp Z t0 k0 c0 c1 Ba Aa h0 n0 _ T13.heap _
      exact ⟨b10, (2 : Int32), _, _, rfl, N13, O13, K13, g_b10, s_b10, F13_0, Or.inl rfl⟩
  · have k18 : ∀ t, Ga p e below m T13 12 #[.val (.ref t0), .val (.int 0), .val (.int 2), .val (.ref b10), .unset, .unset] [(.int 0)] t → Ra p e below m s₁ #[(.ref t0), (.int 0), (.int 2)] 6 t := by
      intro t k
      refine k14 t ?_
      rw [hq]
      exact k
    have f19 := (f12.keep Kc13 (fun q => ne11 (List.mem_singleton.mp q)))
    obtain ⟨_, _, ⟨T20, L20, k20, n20⟩, -, X20, ⟨Lc20, hQ20, l20, y20, z20⟩, st20⟩ := Jvm.LawKit.callS X13 hx (y := Am) hown (mvT hZ (Da hw 47 rfl)) (mvT hZ (Da hw 48 rfl)) (mvT hZ (Da hw 18 rfl)) (mvT hZ (Da hw 49 rfl)) (by decide) (backOf (W := 0) (Rq l Z a0 hw [] t0 k0 c0 c1 _ _ T13.heap n0 O13 hE f19 ) hZ (Da hw 49 rfl) (Da hw 18 rfl) (by decide) (by decide)) (g := (mkF m 23 #[.val (.ref t0), .val (.int 0), .val (.int 2), .val (.ref b10), .val (.int 0), .unset] [(.int 2), (.int 0), (.ref t0)])) rfl (by rw [hml]; rfl) (argsL := [(.ref t0), (.int 0), (.int 2)]) (rest := []) (lenOf Ii rfl) rfl (by show 2 * 0 + _ ≤ _; exact Nat.le_of_eq rfl) (hb hby Kd) (fun _ _ => ⟨rfl, rfl, (by decide : 1 + 1 ≤ _), (by decide : 2 + 4 ≤ _)⟩)
    dsimp only [Pt.U, Pt.locs, Pt.cells, Pt.slots] at X20 l20 y20 z20 st20 hQ20
    subst l20 y20 z20
    obtain ⟨b20, k20, rfl, N20q, O20, Kc20, g_b20, gs_b20, F20_0⟩ := hQ20
    have N20 := Fr.app N13 N20q
    have K20 := K13.trans Kc20 (fun x hx => nomatch hx)
    have s_b20 := Nat.le_trans K13.1 gs_b20
    have lt_b20 := F20_0.lt
    obtain ⟨_, _, ⟨T21, L21, k21, n21⟩, -, X21, ⟨Lc21, hQ21, l21, y21, z21⟩, st21⟩ := Jvm.LawKit.callS X20 hx (y := Hi) hown (mvT hZ (Da hw 63 rfl)) (mvT hZ (Da hw 64 rfl)) (mvT hZ (Da hw 18 rfl)) (mvT hZ (Da hw 65 rfl)) (by decide) (backOf (W := 0) (Vt l Z a0 hw [] b20 k20 ((c0 >>> ((0 : Int32) &&& 31)).toInt8.toInt32) ((c0 >>> ((8 : Int32) &&& 31)).toInt8.toInt32) ((c1 >>> ((0 : Int32) &&& 31)).toInt8.toInt32) ((c1 >>> ((8 : Int32) &&& 31)).toInt8.toInt32) _ _ T20.heap n0 O20 hE F20_0 ) hZ (Da hw 65 rfl) (Da hw 18 rfl) (by decide) (by decide)) (g := (mkF m 32 #[.val (.ref t0), .val (.int 0), .val (.int 2), .val (.ref b10), .val (.int 0), .val (.ref b20)] [(.int 0), (.ref b20)])) rfl (by rw [hml]; rfl) (argsL := [(.ref b20), (.int 0)]) (rest := []) (lenOf Gm rfl) rfl (by show 2 * 0 + _ ≤ _; exact Nat.le_of_eq rfl) (hb hby Rd) (fun _ _ => ⟨rfl, rfl, (by decide : 2 + 0 ≤ _), (by decide : 6 + 0 ≤ _)⟩)
    dsimp only [Pt.U, Pt.locs, Pt.cells, Pt.slots] at X21 l21 y21 z21 st21 hQ21
    subst l21 y21 z21
    obtain ⟨rfl, N21q, hp21⟩ := hQ21
    have N21 := Fr.app N20 N21q
    have k22 : ∀ t, Ga p e below m T21 56 #[.val (.ref t0), .val (.int 0), .val (.int 2), .val (.ref b10), .val (.int 0), .val (.ref b20)] [(.ref b20)] t → Ra p e below m s₁ #[(.ref t0), (.int 0), (.int 2)] 6 t := by
      intro t k
      refine k18 t ?_
      refine XS.istore X13.here hx rfl (hb hby Ab) rfl (l' := #[.val (.ref t0), .val (.int 0), .val (.int 2), .val (.ref b10), .val (.int 0), .unset]) rfl ?_
      refine XS.iload X13.here hx rfl (hb hby Bb) rfl ?_
      refine XS.iloadN X13.here hx rfl (hb hby Db) rfl ?_
      refine XS.icmpNo X13.here hx rfl (hb hby Gb) rfl (feq (by decide : ¬ ((0 : Int32) = (2 : Int32)))).1 ?_
      refine XS.aloadN X13.here hx rfl (hb hby Gd) rfl rfl ?_
      refine XS.iloadN X13.here hx rfl (hb hby Hd) rfl ?_
      refine XS.iloadN X13.here hx rfl (hb hby Id) rfl ?_
      refine st20 _ ?_
      show Ga p e below m T20 26 #[.val (.ref t0), .val (.int 0), .val (.int 2), .val (.ref b10), .val (.int 0), .unset] [(.ref b20)] t
      refine XS.astore X20.here hx rfl (hb hby Ld) rfl rfl (l' := #[.val (.ref t0), .val (.int 0), .val (.int 2), .val (.ref b10), .val (.int 0), .val (.ref b20)]) rfl ?_
      refine XS.aload X20.here hx rfl (hb hby Md) rfl rfl ?_
      refine XS.iload X20.here hx rfl (hb hby Pd) rfl ?_
      refine st21 _ ?_
      refine XS.sipush X21.here hx rfl (hb hby Ud) ?_
      refine XS.icmpYes X21.here hx rfl (pc0 := 38) (pc' := 54) rfl (hb hby Vd) rfl (tlt (by rw [Hm lo0 hi0]; exact hb15)).2.2.1 (by decide) (by decide) ?_
      refine XS.aload X21.here hx rfl (hb hby Wd) rfl rfl ?_
      exact k
    obtain ⟨fs, hr, hrun, hended, hW, hsame⟩ := X21.leave (v := some (.ref b20)) (fun h => by rw [Bd.returns] at h; cases h)
    refine hNG ⟨_, _, k22 _ ?_, hrun, hended, _, _, rfl, ?_, ⟨_, rfl⟩, hW, hsame.mono (by decide) (by decide)⟩
    · exact retOut X21 hx (t := (.array .byte)) Bd.returns rfl (Or.inr (Or.inr (Or.inr (Or.inr ⟨rfl, rfl, rfl⟩)))) (hb hby Yd) hr
    · show Mp Z t0 k0 c0 c1 Ba Aa h0 n0 _ T21.heap _
      rw [hp21]
      exact ⟨b20, (4 : Int32), _, _, rfl, N21, O20, K20, g_b20, s_b20, F20_0, Or.inr rfl⟩
  · have k23 : ∀ t, Ga p e below m T13 12 #[.val (.ref t0), .val (.int 0), .val (.int 2), .val (.ref b10), .unset, .unset] [(.int 1)] t → Ra p e below m s₁ #[(.ref t0), (.int 0), (.int 2)] 6 t := by
      intro t k
      refine k14 t ?_
      rw [hq]
      exact k
    have f24 := (f12.keep Kc13 (fun q => ne11 (List.mem_singleton.mp q)))
    obtain ⟨_, _, ⟨T25, L25, k25, n25⟩, -, X25, ⟨Lc25, hQ25, l25, y25, z25⟩, st25⟩ := Jvm.LawKit.callS X13 hx (y := Am) hown (mvT hZ (Da hw 47 rfl)) (mvT hZ (Da hw 48 rfl)) (mvT hZ (Da hw 18 rfl)) (mvT hZ (Da hw 49 rfl)) (by decide) (backOf (W := 0) (Rq l Z a0 hw [] t0 k0 c0 c1 _ _ T13.heap n0 O13 hE f24 ) hZ (Da hw 49 rfl) (Da hw 18 rfl) (by decide) (by decide)) (g := (mkF m 23 #[.val (.ref t0), .val (.int 0), .val (.int 2), .val (.ref b10), .val (.int 1), .unset] [(.int 2), (.int 0), (.ref t0)])) rfl (by rw [hml]; rfl) (argsL := [(.ref t0), (.int 0), (.int 2)]) (rest := []) (lenOf Ii rfl) rfl (by show 2 * 0 + _ ≤ _; exact Nat.le_of_eq rfl) (hb hby Kd) (fun _ _ => ⟨rfl, rfl, (by decide : 1 + 1 ≤ _), (by decide : 2 + 4 ≤ _)⟩)
    dsimp only [Pt.U, Pt.locs, Pt.cells, Pt.slots] at X25 l25 y25 z25 st25 hQ25
    subst l25 y25 z25
    obtain ⟨b25, k25, rfl, N25q, O25, Kc25, g_b25, gs_b25, F25_0⟩ := hQ25
    have N25 := Fr.app N13 N25q
    have K25 := K13.trans Kc25 (fun x hx => nomatch hx)
    have s_b25 := Nat.le_trans K13.1 gs_b25
    have lt_b25 := F25_0.lt
    obtain ⟨_, _, ⟨T26, L26, k26, n26⟩, -, X26, ⟨Lc26, hQ26, l26, y26, z26⟩, st26⟩ := Jvm.LawKit.callS X25 hx (y := Hi) hown (mvT hZ (Da hw 63 rfl)) (mvT hZ (Da hw 64 rfl)) (mvT hZ (Da hw 18 rfl)) (mvT hZ (Da hw 65 rfl)) (by decide) (backOf (W := 0) (Yt l Z a0 hw [] b25 k25 ((c0 >>> ((0 : Int32) &&& 31)).toInt8.toInt32) ((c0 >>> ((8 : Int32) &&& 31)).toInt8.toInt32) ((c1 >>> ((0 : Int32) &&& 31)).toInt8.toInt32) ((c1 >>> ((8 : Int32) &&& 31)).toInt8.toInt32) _ _ T25.heap n0 O25 hE F25_0 ) hZ (Da hw 65 rfl) (Da hw 18 rfl) (by decide) (by decide)) (g := (mkF m 32 #[.val (.ref t0), .val (.int 0), .val (.int 2), .val (.ref b10), .val (.int 1), .val (.ref b25)] [(.int 1), (.ref b25)])) rfl (by rw [hml]; rfl) (argsL := [(.ref b25), (.int 1)]) (rest := []) (lenOf Gm rfl) rfl (by show 2 * 0 + _ ≤ _; exact Nat.le_of_eq rfl) (hb hby Rd) (fun _ _ => ⟨rfl, rfl, (by decide : 2 + 0 ≤ _), (by decide : 6 + 0 ≤ _)⟩)
    dsimp only [Pt.U, Pt.locs, Pt.cells, Pt.slots] at X26 l26 y26 z26 st26 hQ26
    subst l26 y26 z26
    obtain ⟨rfl, N26q, hp26⟩ := hQ26
    have N26 := Fr.app N25 N26q
    have k27 : ∀ t, Ga p e below m T26 56 #[.val (.ref t0), .val (.int 0), .val (.int 2), .val (.ref b10), .val (.int 1), .val (.ref b25)] [(.ref b25)] t → Ra p e below m s₁ #[(.ref t0), (.int 0), (.int 2)] 6 t := by
      intro t k
      refine k23 t ?_
      refine XS.istore X13.here hx rfl (hb hby Ab) rfl (l' := #[.val (.ref t0), .val (.int 0), .val (.int 2), .val (.ref b10), .val (.int 1), .unset]) rfl ?_
      refine XS.iload X13.here hx rfl (hb hby Bb) rfl ?_
      refine XS.iloadN X13.here hx rfl (hb hby Db) rfl ?_
      refine XS.icmpNo X13.here hx rfl (hb hby Gb) rfl (feq (by decide : ¬ ((1 : Int32) = (2 : Int32)))).1 ?_
      refine XS.aloadN X13.here hx rfl (hb hby Gd) rfl rfl ?_
      refine XS.iloadN X13.here hx rfl (hb hby Hd) rfl ?_
      refine XS.iloadN X13.here hx rfl (hb hby Id) rfl ?_
      refine st25 _ ?_
      show Ga p e below m T25 26 #[.val (.ref t0), .val (.int 0), .val (.int 2), .val (.ref b10), .val (.int 1), .unset] [(.ref b25)] t
      refine XS.astore X25.here hx rfl (hb hby Ld) rfl rfl (l' := #[.val (.ref t0), .val (.int 0), .val (.int 2), .val (.ref b10), .val (.int 1), .val (.ref b25)]) rfl ?_
      refine XS.aload X25.here hx rfl (hb hby Md) rfl rfl ?_
      refine XS.iload X25.here hx rfl (hb hby Pd) rfl ?_
      refine st26 _ ?_
      refine XS.sipush X26.here hx rfl (hb hby Ud) ?_
      refine XS.icmpYes X26.here hx rfl (pc0 := 38) (pc' := 54) rfl (hb hby Vd) rfl (tlt (by rw [Hm lo1 hi1]; exact hb15)).2.2.1 (by decide) (by decide) ?_
      refine XS.aload X26.here hx rfl (hb hby Wd) rfl rfl ?_
      exact k
    obtain ⟨fs, hr, hrun, hended, hW, hsame⟩ := X26.leave (v := some (.ref b25)) (fun h => by rw [Bd.returns] at h; cases h)
    refine hNG ⟨_, _, k27 _ ?_, hrun, hended, _, _, rfl, ?_, ⟨_, rfl⟩, hW, hsame.mono (by decide) (by decide)⟩
    · exact retOut X26 hx (t := (.array .byte)) Bd.returns rfl (Or.inr (Or.inr (Or.inr (Or.inr ⟨rfl, rfl, rfl⟩)))) (hb hby Yd) hr
    · show Mp Z t0 k0 c0 c1 Ba Aa h0 n0 _ T26.heap _
      rw [hp26]
      exact ⟨b25, (4 : Int32), _, _, rfl, N26, O25, K25, g_b25, s_b25, F25_0, Or.inr rfl⟩
theorem Zt (m : MethodId) (x0 : Addr) (x1 : Int32)  : entryFrame m #[(.ref x0), (.int x1)] 2 = mkF m 0 #[.val (.ref x0), .val (.int x1)] [] := by first | (simp [entryFrame, mkF, argsToLocals, Value.category]; done) | rfl
def Wq (Z : State) (q0 : Addr) (k0 : ClassId) (vs : List Value) (Ba : Int32) (Aa : Value) (h0 : Heap) (n0 : Nat) (v : Option Value) (h : Heap) (L : List Loc) : Prop := v = some (.int 0) ∧ Fr n0 L ∧ h = h0
set_option maxRecDepth 65536 in
set_option maxHeartbeats 40000000 in
theorem Au (l : Launch) (Z : State) (a0 : Array Value) (hw : ∀ d ∈ tables_1, d.before a0 Z = true) (ws : List Jvm.Cond) (q0 : Addr) (k0 : ClassId) (vs : List Value) (Ba : Int32) (Aa : Value) (h0 : Heap) (n0 : Nat) (O0 : Old Z n0 h0) (hE : EV Z Ba Aa) (P0 : Arv Z h0 q0 k0 .byte (2 : Int32) vs (.int 0)) :
    MetFree l Ki (head1 (Jvm.Cond.code Ki jdk_52_method_15_code 2 (some .byte) :: ws) ({ frames := 0, cells := 0, slots := 0, locals := 0 } : Room)) (fun a U => a = #[(.ref q0), (.int 2)] ∧ Z.Warmed39 U.vm ∧ U.heap = h0) (fun _ _ _ _ _ => True) (fun _ U o U' => ∃ v L, o = .returned v ∧ Wq Z q0 k0 vs Ba Aa h0 n0 v U'.heap L ∧ FrameEnd U o U' L ({ frames := 0, cells := 0, slots := 0, locals := 0 } : Room).cells ({ frames := 0, cells := 0, slots := 0, locals := 0 } : Room).slots) := by
  refine MetFree.of_bodySF (plainFor_of_name Pa) hisR ?_
  intro p e s m args below meth c s₁ Bd hml0 hP hK
  obtain ⟨rfl, hZ, hh⟩ := hP
  have hx := Bd.exec
  have hby := Bd.bytes
  have hml : c.maxLocals = 2 := hml0
  have hown : s.vm.findClass "java/lang/StringUTF16" = some m.cls := findClass_of_methodNamed Bd.named
  have hnm := (name_of_methodNamed Bd.named Bd.method).1
  have X00 : Stand p l e ({ frames := 0, cells := 0, slots := 0, locals := 0 } : Room) s m #[(.ref q0), (.int 2)] below meth c s₁ [] 0 0 := Stand.of_body Bd
  have e00 : s₁.heap = h0 := by rw [← hh, Bd.state]; rfl
  have N00 := Fr.nil n0
  refine Classical.byContradiction fun hNG => ?_
  have K00 := Keep.refl h0 []
  have k00 : ∀ t, Ga p e below m s₁ 0 #[.val (.ref q0), .val (.int 2)] [] t → Ra p e below m s₁ #[(.ref q0), (.int 2)] 2 t := fun t k => castTop (Zt m q0 ((2 : Int32)) ) k
  obtain ⟨Ua, La, Va, Ma, Ha, Ia, Ka⟩ := (id hE : EV Z Ba Aa)
  obtain ⟨cl10, Ar10, q10, Sz10, Nn10, Hs10, Gf10⟩ := id P0
  have k11 : ∀ t, Ga p e below m s₁ 8 #[.val (.ref q0), .val (.int 2)] [(.int 0)] t → Ra p e below m s₁ #[(.ref q0), (.int 2)] 2 t := by
    intro t k
    refine k00 t ?_
    refine XS.iloadN X00.here hx rfl (hb hby Mh) rfl ?_
    refine XS.aloadN X00.here hx rfl (hb hby Ph) rfl rfl ?_
    refine X00.arraylength hx (by rw [e00]; exact Ar10.1) (State.isArrayOf_alike hZ.alike Ar10.2.1) (g := (mkF m 2 #[.val (.ref q0), .val (.int 2)] [(.ref q0), (.int 2)])) rfl rfl (hb hby Rh) _ ?_
    rw [len_of Sz10 Nn10]
    refine XS.isub X00.here hx rfl (hb hby Uh) rfl ?_
    show Ga p e below m s₁ 4 #[.val (.ref q0), .val (.int 2)] [(.int ((2 : Int32) - (2 : Int32)))] t
    rw [show ((2 : Int32) - (2 : Int32)) = (0 : Int32) from by decide]
    refine XS.bipush X00.here hx rfl (hb hby Vh) ?_
    refine XS.iushr X00.here hx rfl (hb hby Wh) rfl ?_
    show Ga p e below m s₁ 7 #[.val (.ref q0), .val (.int 2)] [(.int (((0 : Int32).toUInt32 >>> ((31 : Int32) &&& 31).toUInt32).toInt32))] t
    rw [show (((0 : Int32).toUInt32 >>> ((31 : Int32) &&& 31).toUInt32).toInt32) = (0 : Int32) from by decide]
    show Ga p e below m s₁ 7 #[.val (.ref q0), .val (.int 2)] [(.int 0)] t
    refine XS.i2b X00.here hx rfl (hb hby Yh) rfl ?_
    show Ga p e below m s₁ 8 #[.val (.ref q0), .val (.int 2)] [(.int ((0 : Int32).toInt8.toInt32))] t
    rw [show ((0 : Int32).toInt8.toInt32) = (0 : Int32) from by decide]
    exact k
  obtain ⟨fs, hr, hrun, hended, hW, hsame⟩ := X00.leave (v := some (.int 0)) (fun h => by rw [Bd.returns] at h; cases h)
  refine hNG ⟨_, _, k11 _ ?_, hrun, hended, _, _, rfl, ?_, ⟨_, rfl⟩, hW, hsame.mono (by decide) (by decide)⟩
  · exact retN X00 hx (t := .byte) Bd.returns (by simp) (hb hby Zh) (by first | exact hr | (rw [show nar .byte (0 : Int32) = (0 : Int32) from by first | rfl | exact Wi _ | decide]; exact hr))
  · show Wq Z q0 k0 vs Ba Aa h0 n0 _ s₁.heap _
    rw [e00]
    exact ⟨rfl, N00, rfl⟩
theorem Bu (m : MethodId) (x0 : Addr) (x1 : Int32)  : entryFrame m #[(.ref x0), (.int x1)] 2 = mkF m 0 #[.val (.ref x0), .val (.int x1)] [] := by first | (simp [entryFrame, mkF, argsToLocals, Value.category]; done) | rfl
def Yq (Z : State) (q0 : Addr) (k0 : ClassId) (vs : List Value) (Ba : Int32) (Aa : Value) (h0 : Heap) (n0 : Nat) (v : Option Value) (h : Heap) (L : List Loc) : Prop := v = some (.int 1) ∧ Fr n0 L ∧ h = h0
set_option maxRecDepth 65536 in
set_option maxHeartbeats 40000000 in
theorem Du (l : Launch) (Z : State) (a0 : Array Value) (hw : ∀ d ∈ tables_1, d.before a0 Z = true) (ws : List Jvm.Cond) (q0 : Addr) (k0 : ClassId) (vs : List Value) (Ba : Int32) (Aa : Value) (h0 : Heap) (n0 : Nat) (O0 : Old Z n0 h0) (hE : EV Z Ba Aa) (P0 : Arv Z h0 q0 k0 .byte (4 : Int32) vs (.int 0)) :
    MetFree l Ki (head1 (Jvm.Cond.code Ki jdk_52_method_15_code 2 (some .byte) :: ws) ({ frames := 0, cells := 0, slots := 0, locals := 0 } : Room)) (fun a U => a = #[(.ref q0), (.int 2)] ∧ Z.Warmed39 U.vm ∧ U.heap = h0) (fun _ _ _ _ _ => True) (fun _ U o U' => ∃ v L, o = .returned v ∧ Yq Z q0 k0 vs Ba Aa h0 n0 v U'.heap L ∧ FrameEnd U o U' L ({ frames := 0, cells := 0, slots := 0, locals := 0 } : Room).cells ({ frames := 0, cells := 0, slots := 0, locals := 0 } : Room).slots) := by
  refine MetFree.of_bodySF (plainFor_of_name Pa) hisR ?_
  intro p e s m args below meth c s₁ Bd hml0 hP hK
  obtain ⟨rfl, hZ, hh⟩ := hP
  have hx := Bd.exec
  have hby := Bd.bytes
  have hml : c.maxLocals = 2 := hml0
  have hown : s.vm.findClass "java/lang/StringUTF16" = some m.cls := findClass_of_methodNamed Bd.named
  have hnm := (name_of_methodNamed Bd.named Bd.method).1
  have X00 : Stand p l e ({ frames := 0, cells := 0, slots := 0, locals := 0 } : Room) s m #[(.ref q0), (.int 2)] below meth c s₁ [] 0 0 := Stand.of_body Bd
  have e00 : s₁.heap = h0 := by rw [← hh, Bd.state]; rfl
  have N00 := Fr.nil n0
  refine Classical.byContradiction fun hNG => ?_
  have K00 := Keep.refl h0 []
  have k00 : ∀ t, Ga p e below m s₁ 0 #[.val (.ref q0), .val (.int 2)] [] t → Ra p e below m s₁ #[(.ref q0), (.int 2)] 2 t := fun t k => castTop (Bu m q0 ((2 : Int32)) ) k
  obtain ⟨Ua, La, Va, Ma, Ha, Ia, Ka⟩ := (id hE : EV Z Ba Aa)
  obtain ⟨cl10, Ar10, q10, Sz10, Nn10, Hs10, Gf10⟩ := id P0
  have k11 : ∀ t, Ga p e below m s₁ 8 #[.val (.ref q0), .val (.int 2)] [(.int 1)] t → Ra p e below m s₁ #[(.ref q0), (.int 2)] 2 t := by
    intro t k
    refine k00 t ?_
    refine XS.iloadN X00.here hx rfl (hb hby Mh) rfl ?_
    refine XS.aloadN X00.here hx rfl (hb hby Ph) rfl rfl ?_
    refine X00.arraylength hx (by rw [e00]; exact Ar10.1) (State.isArrayOf_alike hZ.alike Ar10.2.1) (g := (mkF m 2 #[.val (.ref q0), .val (.int 2)] [(.ref q0), (.int 2)])) rfl rfl (hb hby Rh) _ ?_
    rw [len_of Sz10 Nn10]
    refine XS.isub X00.here hx rfl (hb hby Uh) rfl ?_
    show Ga p e below m s₁ 4 #[.val (.ref q0), .val (.int 2)] [(.int ((2 : Int32) - (4 : Int32)))] t
    rw [show ((2 : Int32) - (4 : Int32)) = (-2 : Int32) from by decide]
    refine XS.bipush X00.here hx rfl (hb hby Vh) ?_
    refine XS.iushr X00.here hx rfl (hb hby Wh) rfl ?_
    show Ga p e below m s₁ 7 #[.val (.ref q0), .val (.int 2)] [(.int (((-2 : Int32).toUInt32 >>> ((31 : Int32) &&& 31).toUInt32).toInt32))] t
    rw [show (((-2 : Int32).toUInt32 >>> ((31 : Int32) &&& 31).toUInt32).toInt32) = (1 : Int32) from by decide]
    show Ga p e below m s₁ 7 #[.val (.ref q0), .val (.int 2)] [(.int 1)] t
    refine XS.i2b X00.here hx rfl (hb hby Yh) rfl ?_
    show Ga p e below m s₁ 8 #[.val (.ref q0), .val (.int 2)] [(.int ((1 : Int32).toInt8.toInt32))] t
    rw [show ((1 : Int32).toInt8.toInt32) = (1 : Int32) from by decide]
    exact k
  obtain ⟨fs, hr, hrun, hended, hW, hsame⟩ := X00.leave (v := some (.int 1)) (fun h => by rw [Bd.returns] at h; cases h)
  refine hNG ⟨_, _, k11 _ ?_, hrun, hended, _, _, rfl, ?_, ⟨_, rfl⟩, hW, hsame.mono (by decide) (by decide)⟩
  · exact retN X00 hx (t := .byte) Bd.returns (by simp) (hb hby Zh) (by first | exact hr | (rw [show nar .byte (1 : Int32) = (1 : Int32) from by first | rfl | exact Wi _ | decide]; exact hr))
  · show Yq Z q0 k0 vs Ba Aa h0 n0 _ s₁.heap _
    rw [e00]
    exact ⟨rfl, N00, rfl⟩
theorem Rx (m : MethodId) (x0 : Addr) (x1 : Addr) (x2 : Int32) (x3 : Int32)  : entryFrame m #[(.ref x0), (.ref x1), (.int x2), (.int x3), .null] 6 = mkF m 0 #[.val (.ref x0), .val (.ref x1), .val (.int x2), .val (.int x3), .val .null, .unset] [] := by first | (simp [entryFrame, mkF, argsToLocals, Value.category]; done) | rfl
def Zp (Z : State) (a1 : Addr) (t0 : Addr) (k0 : ClassId) (c0 : Int32) (c1 : Int32) (Ba : Int32) (Aa : Value) (h0 : Heap) (n0 : Nat) (v : Option Value) (h : Heap) (L : List Loc) : Prop := ∃ (b : Addr) (z : Int32) (k : ClassId) (vs : List Value), v = none ∧ Fr n0 L ∧ Old Z n0 h ∧ Keep h0 h [a1] ∧ n0 ≤ b ∧ h0.size ≤ b ∧ Exa Z h a1 "java/lang/String" ∧ Fld Z h a1 "java/lang/String" "value" "[B" (.ref b) ∧ Arv Z h b k .byte z vs (.int 0) ∧ (¬ (z = (0 : Int32)))
set_option maxRecDepth 65536 in
set_option maxHeartbeats 40000000 in
theorem Ux (l : Launch) (Z : State) (a0 : Array Value) (hw : ∀ d ∈ tables_1, d.before a0 Z = true) (ws : List Jvm.Cond) (a1 : Addr) (t0 : Addr) (k0 : ClassId) (c0 : Int32) (c1 : Int32) (Ba : Int32) (Aa : Value) (h0 : Heap) (n0 : Nat) (O0 : Old Z n0 h0) (hE : EV Z Ba Aa) (P0 : Arv Z h0 t0 k0 .char (2 : Int32) [(.int c0), (.int c1)] (.int 0)) (P1 : Exa Z h0 a1 "java/lang/String") (P2 : Fld Z h0 a1 "java/lang/String" "value" "[B" .null) (P3 : Fld Z h0 a1 "java/lang/String" "coder" "B" (.int 0)) (g_a1 : n0 ≤ a1) (lo0 : ¬ c0 < 0) (hi0 : ¬ (65535 : Int32) < c0) (lo1 : ¬ c1 < 0) (hi1 : ¬ (65535 : Int32) < c1) :
    MetFree l Um (head1 (Jvm.Cond.code Um jdk_42_method_149_code 6 none :: ws) ({ frames := 4, cells := 2, slots := 6, locals := 57 } : Room)) (fun a U => a = #[(.ref a1), (.ref t0), (.int 0), (.int 2), .null] ∧ Z.Warmed39 U.vm ∧ U.heap = h0) (fun _ _ _ _ _ => True) (fun _ U o U' => ∃ v L, o = .returned v ∧ Zp Z a1 t0 k0 c0 c1 Ba Aa h0 n0 v U'.heap L ∧ FrameEnd U o U' L ({ frames := 4, cells := 2, slots := 6, locals := 57 } : Room).cells ({ frames := 4, cells := 2, slots := 6, locals := 57 } : Room).slots) := by
  refine MetFree.of_bodySF (plainFor_of_name Bi) hisR ?_
  intro p e s m args below meth c s₁ Bd hml0 hP hK
  obtain ⟨rfl, hZ, hh⟩ := hP
  have hx := Bd.exec
  have hby := Bd.bytes
  have hml : c.maxLocals = 6 := hml0
  have hown : s.vm.findClass "java/lang/String" = some m.cls := findClass_of_methodNamed Bd.named
  have hnm := (name_of_methodNamed Bd.named Bd.method).1
  have X00 : Stand p l e ({ frames := 4, cells := 2, slots := 6, locals := 57 } : Room) s m #[(.ref a1), (.ref t0), (.int 0), (.int 2), .null] below meth c s₁ [] 0 0 := Stand.of_body Bd
  have e00 : s₁.heap = h0 := by rw [← hh, Bd.state]; rfl
  have N00 := Fr.nil n0
  refine Classical.byContradiction fun hNG => ?_
  have K00 := Keep.refl h0 [a1]
  have k00 : ∀ t, Ga p e below m s₁ 0 #[.val (.ref a1), .val (.ref t0), .val (.int 0), .val (.int 2), .val .null, .unset] [] t → Ra p e below m s₁ #[(.ref a1), (.ref t0), (.int 0), (.int 2), .null] 6 t := fun t k => castTop (Rx m a1 t0 ((0 : Int32)) ((2 : Int32)) ) k
  obtain ⟨Ua, La, Va, Ma, Ha, Ia, Ka⟩ := (id hE : EV Z Ba Aa)
  obtain ⟨T10, X10, e10, st10⟩ := initO X00 hx hZ hown (Da hw 12 rfl) (Da hw 13 rfl) (Da hw 14 rfl) e00 (g := (mkF m 1 #[.val (.ref a1), .val (.ref t0), .val (.int 0), .val (.int 2), .val .null, .unset] [(.ref a1)])) rfl (by rw [hml]; rfl) rfl (hb hby Kj) (by decide) (W := 0) (by show 2 * 0 + _ ≤ _; exact Nat.le_of_eq rfl) (by decide)
  obtain ⟨T11, X11, e11, st11⟩ := getS2 X10 hx hZ hown (host := "") (Or.inl (Da hw 15 rfl)) Via.refl e10 (Ua.ext O0.2) (g := (mkF m 27 #[.val (.ref a1), .val (.ref t0), .val (.int 0), .val (.int 2), .val .null, .unset] [])) rfl (hb hby Li)
  obtain ⟨_, _, ⟨T12, L12, k12, n12⟩, -, X12, ⟨Lc12, hQ12, l12, y12, z12⟩, st12⟩ := Jvm.LawKit.callS X11 hx (y := Rm) hown (mvT hZ (Da hw 16 rfl)) (mvT hZ (Da hw 17 rfl)) (mvT hZ (Da hw 18 rfl)) (mvT hZ (Da hw 19 rfl)) (by decide) (backOf (W := 0) (Px l Z a0 hw [] t0 k0 c0 c1 _ _ h0 n0 O0 hE P0 lo0 hi0 lo1 hi1) hZ (Da hw 19 rfl) (Da hw 18 rfl) (by decide) (by decide)) (g := (mkF m 36 #[.val (.ref a1), .val (.ref t0), .val (.int 0), .val (.int 2), .val .null, .unset] [(.int 2), (.int 0), (.ref t0)])) rfl (by rw [hml]; rfl) (argsL := [(.ref t0), (.int 0), (.int 2)]) (rest := []) (lenOf Ii rfl) rfl (by show 2 * 0 + _ ≤ _; exact Nat.le_of_eq rfl) (hb hby Vi) (fun _ _ => ⟨rfl, e11, (by decide : 0 + 2 ≤ _), (by decide : 0 + 6 ≤ _)⟩)
  dsimp only [Pt.U, Pt.locs, Pt.cells, Pt.slots] at X12 l12 y12 z12 st12 hQ12
  subst l12 y12 z12
  obtain ⟨b12, z12, k12, vs12, rfl, N12q, O12, Kc12, g_b12, gs_b12, F12_0, D12_0⟩ := hQ12
  have N12 := Fr.app N00 N12q
  have K12 := K00.trans Kc12 (fun x hx => nomatch hx)
  have s_b12 := Nat.le_trans K00.1 gs_b12
  have lt_b12 := F12_0.lt
  have k13 : ∀ t, Ga p e below m T12 39 #[.val (.ref a1), .val (.ref t0), .val (.int 0), .val (.int 2), .val .null, .unset] [(.ref b12)] t → Ra p e below m s₁ #[(.ref a1), (.ref t0), (.int 0), (.int 2), .null] 6 t := by
    intro t k
    refine k00 t ?_
    refine XS.aloadN X00.here hx rfl (hb hby Ij) rfl rfl ?_
    refine st10 _ ?_
    refine XS.iloadN X10.here hx rfl (hb hby Lj) rfl ?_
    refine XS.ifYes X10.here hx rfl (pc0 := 5) (pc' := 27) rfl (hb hby Mj) rfl ((if0 _ _).trans (feq (by decide : ¬ ((2 : Int32) = (0 : Int32)))).2) (by decide) (by decide) ?_
    refine st11 _ ?_
    refine XS.ifNo X11.here hx rfl (hb hby Mi) rfl ((if0 _ _).trans (feq La).1) ?_
    refine XS.aloadN X11.here hx rfl (hb hby Pi) rfl rfl ?_
    refine XS.iloadN X11.here hx rfl (hb hby Ri) rfl ?_
    show Ga p e below m T11 35 #[.val (.ref a1), .val (.ref t0), .val (.int 0), .val (.int 2), .val .null, .unset] [(.int 0), (.ref t0)] t
    refine XS.iloadN X11.here hx rfl (hb hby Ui) rfl ?_
    refine st12 _ ?_
    exact k
  rcases D12_0 with hq | hq
  · subst hq
    obtain ⟨_, _, ⟨T14, L14, k14, n14⟩, -, X14, ⟨Lc14, hQ14, l14, y14, z14⟩, st14⟩ := Jvm.LawKit.callS X12 hx (y := Ki) hown (mvT hZ (Da hw 24 rfl)) (mvT hZ (Da hw 25 rfl)) (mvT hZ (Da hw 18 rfl)) (mvT hZ (Da hw 26 rfl)) (by decide) (backOf (W := 1) (Au l Z a0 hw [] b12 k12 vs12 _ _ T12.heap n0 O12 hE F12_0 ) hZ (Da hw 26 rfl) (Da hw 18 rfl) (by decide) (by decide)) (g := (mkF m 45 #[.val (.ref a1), .val (.ref t0), .val (.int 0), .val (.int 2), .val .null, .val (.ref b12)] [(.int 2), (.ref b12), (.ref a1)])) rfl (by rw [hml]; rfl) (argsL := [(.ref b12), (.int 2)]) (rest := [(.ref a1)]) (lenOf Im rfl) rfl (by show 2 * 0 + _ ≤ _; exact Nat.le_of_eq rfl) (hb hby Dh) (fun _ _ => ⟨rfl, rfl, (by decide : 2 + 0 ≤ _), (by decide : 6 + 0 ≤ _)⟩)
    dsimp only [Pt.U, Pt.locs, Pt.cells, Pt.slots] at X14 l14 y14 z14 st14 hQ14
    subst l14 y14 z14
    obtain ⟨rfl, N14q, hp14⟩ := hQ14
    have N14 := Fr.app N12 N14q
    have f15 := (P1.keep Kc12)
    have f16 := (P3.keep Kc12 List.not_mem_nil)
    obtain ⟨T17, h17, X17, e17, W17, st17⟩ := putFN X14 hx hZ hown (Da hw 27 rfl) Via.refl hp14 f16 f15 (Or.inr ⟨(Da hw 28 rfl), rfl, hnm⟩) (Da hw 3 rfl) (ty := .byte) (v' := .int (0 : Int32)) (by decide) rfl (by decide) (g := (mkF m 48 #[.val (.ref a1), .val (.ref t0), .val (.int 0), .val (.int 2), .val .null, .val (.ref b12)] [(.int 0), (.ref a1)])) rfl rfl (hb hby Gh)
    have F17_coder := f16.same W17
    have N17 := Fr.snoc X17 N14 g_a1
    have O17 := O12.wr W17 g_a1
    have K17 := K12.wr W17 (Or.inl (List.mem_of_getElem? (i := 0) rfl))
    have f18 := (f15.wr W17)
    have f19 := ((P2.keep Kc12 List.not_mem_nil).other W17 (Or.inr (slot_ne (Or.inr (Da hw 30 rfl)) (Or.inr (Da hw 28 rfl)) (by decide) (t := (.array .byte)) (t' := .byte) (by decide) (by decide))))
    obtain ⟨T20, h20, X20, e20, W20, st20⟩ := putF X17 hx hZ hown (host := "") (Or.inl (Da hw 29 rfl)) Via.refl e17 f19 f18 (Or.inr ⟨(Da hw 30 rfl), rfl, hnm⟩) (Da hw 3 rfl) (ty := (.array .byte)) (by decide) rfl rfl (g := (mkF m 54 #[.val (.ref a1), .val (.ref t0), .val (.int 0), .val (.int 2), .val .null, .val (.ref b12)] [(.ref b12), (.ref a1)])) rfl rfl (hb hby Kh)
    have F20_value := f19.same W20
    have N20 := Fr.snoc X20 N17 g_a1
    have O20 := O17.wr W20 g_a1
    have K20 := K17.wr W20 (Or.inl (List.mem_of_getElem? (i := 0) rfl))
    have k21 : ∀ t, Ga p e below m T20 57 #[.val (.ref a1), .val (.ref t0), .val (.int 0), .val (.int 2), .val .null, .val (.ref b12)] [] t → Ra p e below m s₁ #[(.ref a1), (.ref t0), (.int 0), (.int 2), .null] 6 t := by
      intro t k
      refine k13 t ?_
      refine XS.astore X12.here hx rfl (hb hby Yg) rfl rfl (l' := #[.val (.ref a1), .val (.ref t0), .val (.int 0), .val (.int 2), .val .null, .val (.ref b12)]) rfl ?_
      refine XS.aloadN X12.here hx rfl (hb hby Zg) rfl rfl ?_
      refine XS.aload X12.here hx rfl (hb hby Ah) rfl rfl ?_
      refine XS.iloadN X12.here hx rfl (hb hby Bh) rfl ?_
      refine st14 _ ?_
      refine st17 _ ?_
      refine XS.aloadN X17.here hx rfl (hb hby Hh) rfl rfl ?_
      refine XS.aload X17.here hx rfl (hb hby Ih) rfl rfl ?_
      show Ga p e below m T17 54 #[.val (.ref a1), .val (.ref t0), .val (.int 0), .val (.int 2), .val .null, .val (.ref b12)] [(.ref b12), (.ref a1)] t
      refine st20 _ ?_
      exact k
    have f22 := (f18.wr W20)
    have ne23 : ¬ (b12 = a1) := (Ne.symm (Nat.ne_of_lt (Nat.lt_of_lt_of_le P1.lt gs_b12)))
    have f24 := ((F12_0.other W17 ne23).other W20 ne23)
    obtain ⟨fs, hr, hrun, hended, hW, hsame⟩ := X20.leave (v := none) (fun _ => rfl)
    refine hNG ⟨_, _, k21 _ ?_, hrun, hended, _, _, rfl, ?_, ⟨_, rfl⟩, hW, hsame.mono (by decide) (by decide)⟩
    · exact X20.returnOut hx Bd.returns (hb hby Lh) hr
    · show Zp Z a1 t0 k0 c0 c1 Ba Aa h0 n0 _ T20.heap _
      rw [e20]
      exact ⟨b12, (2 : Int32), _, _, rfl, N20, O20, K20, g_b12, s_b12, f22, F20_value, f24, (by decide)⟩
  · subst hq
    obtain ⟨_, _, ⟨T25, L25, k25, n25⟩, -, X25, ⟨Lc25, hQ25, l25, y25, z25⟩, st25⟩ := Jvm.LawKit.callS X12 hx (y := Ki) hown (mvT hZ (Da hw 24 rfl)) (mvT hZ (Da hw 25 rfl)) (mvT hZ (Da hw 18 rfl)) (mvT hZ (Da hw 26 rfl)) (by decide) (backOf (W := 1) (Du l Z a0 hw [] b12 k12 vs12 _ _ T12.heap n0 O12 hE F12_0 ) hZ (Da hw 26 rfl) (Da hw 18 rfl) (by decide) (by decide)) (g := (mkF m 45 #[.val (.ref a1), .val (.ref t0), .val (.int 0), .val (.int 2), .val .null, .val (.ref b12)] [(.int 2), (.ref b12), (.ref a1)])) rfl (by rw [hml]; rfl) (argsL := [(.ref b12), (.int 2)]) (rest := [(.ref a1)]) (lenOf Im rfl) rfl (by show 2 * 0 + _ ≤ _; exact Nat.le_of_eq rfl) (hb hby Dh) (fun _ _ => ⟨rfl, rfl, (by decide : 2 + 0 ≤ _), (by decide : 6 + 0 ≤ _)⟩)
    dsimp only [Pt.U, Pt.locs, Pt.cells, Pt.slots] at X25 l25 y25 z25 st25 hQ25
    subst l25 y25 z25
    obtain ⟨rfl, N25q, hp25⟩ := hQ25
    have N25 := Fr.app N12 N25q
    have f26 := (P1.keep Kc12)
    have f27 := (P3.keep Kc12 List.not_mem_nil)
    obtain ⟨T28, h28, X28, e28, W28, st28⟩ := putFN X25 hx hZ hown (Da hw 27 rfl) Via.refl hp25 f27 f26 (Or.inr ⟨(Da hw 28 rfl), rfl, hnm⟩) (Da hw 3 rfl) (ty := .byte) (v' := .int (1 : Int32)) (by decide) rfl (by decide) (g := (mkF m 48 #[.val (.ref a1), .val (.ref t0), .val (.int 0), .val (.int 2), .val .null, .val (.ref b12)] [(.int 1), (.ref a1)])) rfl rfl (hb hby Gh)
    have F28_coder := f27.same W28
    have N28 := Fr.snoc X28 N25 g_a1
    have O28 := O12.wr W28 g_a1
    have K28 := K12.wr W28 (Or.inl (List.mem_of_getElem? (i := 0) rfl))
    have f29 := (f26.wr W28)
    have f30 := ((P2.keep Kc12 List.not_mem_nil).other W28 (Or.inr (slot_ne (Or.inr (Da hw 30 rfl)) (Or.inr (Da hw 28 rfl)) (by decide) (t := (.array .byte)) (t' := .byte) (by decide) (by decide))))
    obtain ⟨T31, h31, X31, e31, W31, st31⟩ := putF X28 hx hZ hown (host := "") (Or.inl (Da hw 29 rfl)) Via.refl e28 f30 f29 (Or.inr ⟨(Da hw 30 rfl), rfl, hnm⟩) (Da hw 3 rfl) (ty := (.array .byte)) (by decide) rfl rfl (g := (mkF m 54 #[.val (.ref a1), .val (.ref t0), .val (.int 0), .val (.int 2), .val .null, .val (.ref b12)] [(.ref b12), (.ref a1)])) rfl rfl (hb hby Kh)
    have F31_value := f30.same W31
    have N31 := Fr.snoc X31 N28 g_a1
    have O31 := O28.wr W31 g_a1
    have K31 := K28.wr W31 (Or.inl (List.mem_of_getElem? (i := 0) rfl))
    have k32 : ∀ t, Ga p e below m T31 57 #[.val (.ref a1), .val (.ref t0), .val (.int 0), .val (.int 2), .val .null, .val (.ref b12)] [] t → Ra p e below m s₁ #[(.ref a1), (.ref t0), (.int 0), (.int 2), .null] 6 t := by
      intro t k
      refine k13 t ?_
      refine XS.astore X12.here hx rfl (hb hby Yg) rfl rfl (l' := #[.val (.ref a1), .val (.ref t0), .val (.int 0), .val (.int 2), .val .null, .val (.ref b12)]) rfl ?_
      refine XS.aloadN X12.here hx rfl (hb hby Zg) rfl rfl ?_
      refine XS.aload X12.here hx rfl (hb hby Ah) rfl rfl ?_
      refine XS.iloadN X12.here hx rfl (hb hby Bh) rfl ?_
      refine st25 _ ?_
      refine st28 _ ?_
      refine XS.aloadN X28.here hx rfl (hb hby Hh) rfl rfl ?_
      refine XS.aload X28.here hx rfl (hb hby Ih) rfl rfl ?_
      show Ga p e below m T28 54 #[.val (.ref a1), .val (.ref t0), .val (.int 0), .val (.int 2), .val .null, .val (.ref b12)] [(.ref b12), (.ref a1)] t
      refine st31 _ ?_
      exact k
    have f33 := (f29.wr W31)
    have ne34 : ¬ (b12 = a1) := (Ne.symm (Nat.ne_of_lt (Nat.lt_of_lt_of_le P1.lt gs_b12)))
    have f35 := ((F12_0.other W28 ne34).other W31 ne34)
    obtain ⟨fs, hr, hrun, hended, hW, hsame⟩ := X31.leave (v := none) (fun _ => rfl)
    refine hNG ⟨_, _, k32 _ ?_, hrun, hended, _, _, rfl, ?_, ⟨_, rfl⟩, hW, hsame.mono (by decide) (by decide)⟩
    · exact X31.returnOut hx Bd.returns (hb hby Lh) hr
    · show Zp Z a1 t0 k0 c0 c1 Ba Aa h0 n0 _ T31.heap _
      rw [e31]
      exact ⟨b12, (4 : Int32), _, _, rfl, N31, O31, K31, g_b12, s_b12, f33, F31_value, f35, (by decide)⟩
theorem Vx (m : MethodId) (x0 : Addr) (x1 : Addr)  : entryFrame m #[(.ref x0), (.ref x1)] 2 = mkF m 0 #[.val (.ref x0), .val (.ref x1)] [] := by first | (simp [entryFrame, mkF, argsToLocals, Value.category]; done) | rfl
def Ks (Z : State) (a1 : Addr) (t0 : Addr) (k0 : ClassId) (c0 : Int32) (c1 : Int32) (Ba : Int32) (Aa : Value) (h0 : Heap) (n0 : Nat) (v : Option Value) (h : Heap) (L : List Loc) : Prop := ∃ (b : Addr) (z : Int32) (k : ClassId) (vs : List Value), v = none ∧ Fr n0 L ∧ Old Z n0 h ∧ Keep h0 h [a1] ∧ n0 ≤ b ∧ h0.size ≤ b ∧ Exa Z h a1 "java/lang/String" ∧ Fld Z h a1 "java/lang/String" "value" "[B" (.ref b) ∧ Arv Z h b k .byte z vs (.int 0) ∧ (¬ (z = (0 : Int32)))
set_option maxRecDepth 65536 in
set_option maxHeartbeats 40000000 in
theorem Wx (l : Launch) (Z : State) (a0 : Array Value) (hw : ∀ d ∈ tables_1, d.before a0 Z = true) (ws : List Jvm.Cond) (a1 : Addr) (t0 : Addr) (k0 : ClassId) (c0 : Int32) (c1 : Int32) (Ba : Int32) (Aa : Value) (h0 : Heap) (n0 : Nat) (O0 : Old Z n0 h0) (hE : EV Z Ba Aa) (P0 : Arv Z h0 t0 k0 .char (2 : Int32) [(.int c0), (.int c1)] (.int 0)) (P1 : Exa Z h0 a1 "java/lang/String") (P2 : Fld Z h0 a1 "java/lang/String" "value" "[B" .null) (P3 : Fld Z h0 a1 "java/lang/String" "coder" "B" (.int 0)) (g_a1 : n0 ≤ a1) (lo0 : ¬ c0 < 0) (hi0 : ¬ (65535 : Int32) < c0) (lo1 : ¬ c1 < 0) (hi1 : ¬ (65535 : Int32) < c1) :
    MetFree l Wm (head1 (Jvm.Cond.code Wm jdk_42_method_3_code 2 none :: ws) ({ frames := 5, cells := 2, slots := 6, locals := 74 } : Room)) (fun a U => a = #[(.ref a1), (.ref t0)] ∧ Z.Warmed39 U.vm ∧ U.heap = h0) (fun _ _ _ _ _ => True) (fun _ U o U' => ∃ v L, o = .returned v ∧ Ks Z a1 t0 k0 c0 c1 Ba Aa h0 n0 v U'.heap L ∧ FrameEnd U o U' L ({ frames := 5, cells := 2, slots := 6, locals := 74 } : Room).cells ({ frames := 5, cells := 2, slots := 6, locals := 74 } : Room).slots) := by
  refine MetFree.of_bodySF (plainFor_of_name Bi) hisR ?_
  intro p e s m args below meth c s₁ Bd hml0 hP hK
  obtain ⟨rfl, hZ, hh⟩ := hP
  have hx := Bd.exec
  have hby := Bd.bytes
  have hml : c.maxLocals = 2 := hml0
  have hown : s.vm.findClass "java/lang/String" = some m.cls := findClass_of_methodNamed Bd.named
  have hnm := (name_of_methodNamed Bd.named Bd.method).1
  have X00 : Stand p l e ({ frames := 5, cells := 2, slots := 6, locals := 74 } : Room) s m #[(.ref a1), (.ref t0)] below meth c s₁ [] 0 0 := Stand.of_body Bd
  have e00 : s₁.heap = h0 := by rw [← hh, Bd.state]; rfl
  have N00 := Fr.nil n0
  refine Classical.byContradiction fun hNG => ?_
  have K00 := Keep.refl h0 [a1]
  have k00 : ∀ t, Ga p e below m s₁ 0 #[.val (.ref a1), .val (.ref t0)] [] t → Ra p e below m s₁ #[(.ref a1), (.ref t0)] 2 t := fun t k => castTop (Vx m a1 t0 ) k
  obtain ⟨Ua, La, Va, Ma, Ha, Ia, Ka⟩ := (id hE : EV Z Ba Aa)
  obtain ⟨cl10, Ar10, q10, Sz10, Nn10, Hs10, Gf10⟩ := id P0
  obtain ⟨_, _, ⟨T11, L11, k11, n11⟩, -, X11, ⟨Lc11, hQ11, l11, y11, z11⟩, st11⟩ := X00.specialBack hx (y := Um) rfl hown (mvT hZ (Da hw 8 rfl)) (mvT hZ (Da hw 9 rfl)) (mvT hZ (Da hw 11 rfl)) (by decide) (backOf (W := 0) (Ux l Z a0 hw [] a1 t0 k0 c0 c1 _ _ h0 n0 O0 hE P0 P1 P2 P3 g_a1 lo0 hi0 lo1 hi1) hZ (Da hw 11 rfl) (Da hw 4 rfl) (by decide) (by decide)) (g := (mkF m 6 #[.val (.ref a1), .val (.ref t0)] [.null, (.int 2), (.int 0), (.ref t0), (.ref a1)])) rfl (by rw [hml]; rfl) (Steps.refl _) (a := a1) (argsL := [(.ref t0), (.int 0), (.int 2), .null]) (rest := []) (lenOf Pj rfl) rfl (by show 2 * 0 + _ ≤ _; exact Nat.le_of_eq rfl) (hb hby Wl) (fun _ _ => ⟨rfl, e00, (by decide : 0 + 2 ≤ _), (by decide : 0 + 6 ≤ _)⟩)
  dsimp only [Pt.U, Pt.locs, Pt.cells, Pt.slots] at X11 l11 y11 z11 st11 hQ11
  subst l11 y11 z11
  obtain ⟨b11, z11, k11, vs11, rfl, N11q, O11, Kc11, g_b11, gs_b11, F11_0, F11_1, F11_2, D11_0⟩ := hQ11
  have N11 := Fr.app N00 N11q
  have K11 := K00.trans Kc11 (allS (Or.inl (List.mem_of_getElem? (i := 0) rfl)) all0)
  have s_b11 := Nat.le_trans K00.1 gs_b11
  have lt_b11 := F11_2.lt
  have k12 : ∀ t, Ga p e below m T11 9 #[.val (.ref a1), .val (.ref t0)] [] t → Ra p e below m s₁ #[(.ref a1), (.ref t0)] 2 t := by
    intro t k
    refine k00 t ?_
    refine XS.aloadN X00.here hx rfl (hb hby Ll) rfl rfl ?_
    refine XS.aloadN X00.here hx rfl (hb hby Ml) rfl rfl ?_
    refine XS.iconst X00.here hx rfl (hb hby Pl) ?_
    refine XS.aloadN X00.here hx rfl (hb hby Rl) rfl rfl ?_
    refine X00.arraylength hx (by rw [e00]; exact Ar10.1) (State.isArrayOf_alike hZ.alike Ar10.2.1) (g := (mkF m 4 #[.val (.ref a1), .val (.ref t0)] [(.ref t0), (.int 0), (.ref t0), (.ref a1)])) rfl rfl (hb hby Ul) _ ?_
    rw [len_of Sz10 Nn10]
    refine XS.aconstNull X00.here hx rfl (hb hby Vl) ?_
    refine st11.trans ?_
    exact k
  obtain ⟨fs, hr, hrun, hended, hW, hsame⟩ := X11.leave (v := none) (fun _ => rfl)
  refine hNG ⟨_, _, k12 _ ?_, hrun, hended, _, _, rfl, ?_, ⟨_, rfl⟩, hW, hsame.mono (by decide) (by decide)⟩
  · exact X11.returnOut hx Bd.returns (hb hby Yl) hr
  · show Ks Z a1 t0 k0 c0 c1 Ba Aa h0 n0 _ T11.heap _
    exact ⟨b11, z11, _, _, rfl, N11, O11, K11, g_b11, s_b11, F11_0, F11_1, F11_2, D11_0⟩
theorem Yx (m : MethodId) (x0 : Addr) (x1 : Int32) (x2 : Addr) (x3 : Int32) (x4 : Int32)  : entryFrame m #[(.ref x0), (.int x1), (.ref x2), (.int x3), (.int x4)] 7 = mkF m 0 #[.val (.ref x0), .val (.int x1), .val (.ref x2), .val (.int x3), .val (.int x4), .unset, .unset] [] := by first | (simp [entryFrame, mkF, argsToLocals, Value.category]; done) | rfl
def Wo (Z : State) (t0 : Addr) (t1 : Addr) (k0 : ClassId) (k1 : ClassId) (c0 : Int32) (c1 : Int32) (c2 : Int32) (Ba : Int32) (Aa : Value) (h0 : Heap) (n0 : Nat) (v : Option Value) (h : Heap) (L : List Loc) : Prop := ∃ (kk : Int32) (vs : List Value), v = some (.int kk) ∧ Fr n0 L ∧ Old Z n0 h ∧ Keep h0 h [t1] ∧ Arv Z h t1 k1 .byte (3 : Int32) vs (.int 0) ∧ (kk = (3 : Int32) ∨ (kk = (0 : Int32) ∧ (255 : Int32) < c0) ∨ (kk = (1 : Int32) ∧ (255 : Int32) < c1) ∨ (kk = (2 : Int32) ∧ (255 : Int32) < c2))
set_option maxRecDepth 65536 in
set_option maxHeartbeats 40000000 in
theorem Zx (l : Launch) (Z : State) (a0 : Array Value) (hw : ∀ d ∈ tables_1, d.before a0 Z = true) (ws : List Jvm.Cond) (t0 : Addr) (t1 : Addr) (k0 : ClassId) (k1 : ClassId) (c0 : Int32) (c1 : Int32) (c2 : Int32) (Ba : Int32) (Aa : Value) (h0 : Heap) (n0 : Nat) (O0 : Old Z n0 h0) (hE : EV Z Ba Aa) (P0 : Arv Z h0 t0 k0 .char (3 : Int32) [(.int c0), (.int c1), (.int c2)] (.int 0)) (P1 : Arv Z h0 t1 k1 .byte (3 : Int32) [(.int 0), (.int 0), (.int 0)] (.int 0)) (g_t1 : n0 ≤ t1) (nt : ¬ (t0 = t1)) :
    MetFree l Lm (head1 (Jvm.Cond.code Lm jdk_52_method_21_code 7 (some .int) :: ws) ({ frames := 0, cells := 0, slots := 0, locals := 0 } : Room)) (fun a U => a = #[(.ref t0), (.int 0), (.ref t1), (.int 0), (.int 3)] ∧ Z.Warmed39 U.vm ∧ U.heap = h0) (fun _ _ _ _ _ => True) (fun _ U o U' => ∃ v L, o = .returned v ∧ Wo Z t0 t1 k0 k1 c0 c1 c2 Ba Aa h0 n0 v U'.heap L ∧ FrameEnd U o U' L ({ frames := 0, cells := 0, slots := 0, locals := 0 } : Room).cells ({ frames := 0, cells := 0, slots := 0, locals := 0 } : Room).slots) := by
  refine MetFree.of_bodySF (plainFor_of_name Pa) hisR ?_
  intro p e s m args below meth c s₁ Bd hml0 hP hK
  obtain ⟨rfl, hZ, hh⟩ := hP
  have hx := Bd.exec
  have hby := Bd.bytes
  have hml : c.maxLocals = 7 := hml0
  have hown : s.vm.findClass "java/lang/StringUTF16" = some m.cls := findClass_of_methodNamed Bd.named
  have hnm := (name_of_methodNamed Bd.named Bd.method).1
  have X00 : Stand p l e ({ frames := 0, cells := 0, slots := 0, locals := 0 } : Room) s m #[(.ref t0), (.int 0), (.ref t1), (.int 0), (.int 3)] below meth c s₁ [] 0 0 := Stand.of_body Bd
  have e00 : s₁.heap = h0 := by rw [← hh, Bd.state]; rfl
  have N00 := Fr.nil n0
  refine Classical.byContradiction fun hNG => ?_
  have K00 := Keep.refl h0 [t1]
  have k00 : ∀ t, Ga p e below m s₁ 0 #[.val (.ref t0), .val (.int 0), .val (.ref t1), .val (.int 0), .val (.int 3), .unset, .unset] [] t → Ra p e below m s₁ #[(.ref t0), (.int 0), (.ref t1), (.int 0), (.int 3)] 7 t := fun t k => castTop (Yx m t0 ((0 : Int32)) t1 ((0 : Int32)) ((3 : Int32)) ) k
  obtain ⟨Ua, La, Va, Ma, Ha, Ia, Ka⟩ := (id hE : EV Z Ba Aa)
  obtain ⟨cl10, Ar10, q10, Sz10, Nn10, Hs10, Gf10⟩ := id P0
  have hin11 : ¬ ((0 : Int32) < 0 ∨ cl10.slots.size ≤ ((0 : Int32)).toNatClampNeg) := inb_of Sz10 ⟨by decide, by decide⟩
  have hat12 : cl10.slots[((0 : Int32)).toNatClampNeg]? = some (.int c0) := Hs10.at hin11 rfl
  have k13 : ∀ t, Ga p e below m s₁ 20 #[.val (.ref t0), .val (.int 0), .val (.ref t1), .val (.int 0), .val (.int 3), .val (.int 0), .val (.int c0)] [(.int 255), (.int c0)] t → Ra p e below m s₁ #[(.ref t0), (.int 0), (.ref t1), (.int 0), (.int 3)] 7 t := by
    intro t k
    refine k00 t ?_
    refine XS.iconst X00.here hx rfl (hb hby Rj) ?_
    refine XS.istore X00.here hx rfl (hb hby Uj) rfl (l' := #[.val (.ref t0), .val (.int 0), .val (.ref t1), .val (.int 0), .val (.int 3), .val (.int 0), .unset]) rfl ?_
    refine XS.iload X00.here hx rfl (hb hby Hb) rfl ?_
    refine XS.iload X00.here hx rfl (hb hby Ib) rfl ?_
    refine XS.icmpNo X00.here hx rfl (hb hby Kb) rfl (tlt (by decide : (0 : Int32) < (3 : Int32))).2.1 ?_
    refine XS.aloadN X00.here hx rfl (hb hby Mb) rfl rfl ?_
    refine XS.iloadN X00.here hx rfl (hb hby Pb) rfl ?_
    refine X00.caload hx (j := (0 : Int32)) (v := (.int c0)) (by rw [e00]; exact Ar10.1) (State.isArrayOf_alike hZ.alike Ar10.2.1) Ar10.2.2 hin11 hat12 (g := (mkF m 12 #[.val (.ref t0), .val (.int 0), .val (.ref t1), .val (.int 0), .val (.int 3), .val (.int 0), .unset] [(.int 0), (.ref t0)])) rfl rfl (hb hby Rb) _ ?_
    show Ga p e below m s₁ 13 #[.val (.ref t0), .val (.int 0), .val (.ref t1), .val (.int 0), .val (.int 3), .val (.int 0), .unset] [(.int c0)] t
    refine XS.istore X00.here hx rfl (hb hby Ub) rfl (l' := #[.val (.ref t0), .val (.int 0), .val (.ref t1), .val (.int 0), .val (.int 3), .val (.int 0), .val (.int c0)]) rfl ?_
    refine XS.iload X00.here hx rfl (hb hby Vb) rfl ?_
    refine XS.sipush X00.here hx rfl (hb hby Wb) ?_
    exact k
  by_cases hc14 : (255 : Int32) < c0
  · have k15 : ∀ t, Ga p e below m s₁ 25 #[.val (.ref t0), .val (.int 0), .val (.ref t1), .val (.int 0), .val (.int 3), .val (.int 0), .val (.int c0)] [(.int 0)] t → Ra p e below m s₁ #[(.ref t0), (.int 0), (.ref t1), (.int 0), (.int 3)] 7 t := by
      intro t k
      refine k13 t ?_
      refine XS.icmpNo X00.here hx rfl (hb hby Wa) rfl (tlt hc14).2.2.2 ?_
      refine XS.iload X00.here hx rfl (hb hby Yb) rfl ?_
      exact k
    obtain ⟨fs, hr, hrun, hended, hW, hsame⟩ := X00.leave (v := some (.int 0)) (fun h => by rw [Bd.returns] at h; cases h)
    refine hNG ⟨_, _, k15 _ ?_, hrun, hended, _, _, rfl, ?_, ⟨_, rfl⟩, hW, hsame.mono (by decide) (by decide)⟩
    · exact retOut X00 hx (t := .int) Bd.returns rfl (Or.inl ⟨rfl, Or.inl rfl, _, rfl⟩) (hb hby Zb) hr
    · show Wo Z t0 t1 k0 k1 c0 c1 c2 Ba Aa h0 n0 _ s₁.heap _
      rw [e00]
      exact ⟨(0 : Int32), _, rfl, N00, O0, K00, P1, (Or.inr (Or.inl ⟨rfl, hc14⟩))⟩
  · obtain ⟨cl16, Ar16, q16, Sz16, Nn16, Hs16, Gf16⟩ := id P1
    have hin17 : ¬ ((0 : Int32) < 0 ∨ cl16.slots.size ≤ ((0 : Int32)).toNatClampNeg) := inb_of Sz16 ⟨by decide, by decide⟩
    obtain ⟨T18, h18, X18, e18, W18, st18⟩ := stB X00 hx hZ e00 Ar16 (j := (0 : Int32)) hin17 (g := (mkF m 31 #[.val (.ref t0), .val (.int 0), .val (.ref t1), .val (.int 0), .val (.int 3), .val (.int 0), .val (.int c0)] [(.int (c0.toInt8.toInt32)), (.int 0), (.ref t1)])) rfl rfl (hb hby Hc)
    have V18 : Arv Z h18 t1 k1 .byte (3 : Int32) [(.int ((c0.toInt8.toInt32).toInt8.toInt32)), (.int 0), (.int 0)] (.int 0) := Arv.set Ar16 q16 Sz16 Nn16 Hs16 Gf16 (fits_nar_byte _) W18 0 rfl (Nat.le_of_ble_eq_true rfl)
    have N18 := Fr.snoc X18 N00 g_t1
    have O18 := O0.wr W18 g_t1
    have K18 := K00.wr W18 (Or.inl (List.mem_of_getElem? (i := 0) rfl))
    have f19 := (P0.other W18 nt)
    obtain ⟨cl20, Ar20, q20, Sz20, Nn20, Hs20, Gf20⟩ := id f19
    have hin21 : ¬ ((1 : Int32) < 0 ∨ cl20.slots.size ≤ ((1 : Int32)).toNatClampNeg) := inb_of Sz20 ⟨by decide, by decide⟩
    have hat22 : cl20.slots[((1 : Int32)).toNatClampNeg]? = some (.int c1) := Hs20.at hin21 rfl
    have k23 : ∀ t, Ga p e below m T18 20 #[.val (.ref t0), .val (.int 1), .val (.ref t1), .val (.int 1), .val (.int 3), .val (.int 1), .val (.int c1)] [(.int 255), (.int c1)] t → Ra p e below m s₁ #[(.ref t0), (.int 0), (.ref t1), (.int 0), (.int 3)] 7 t := by
      intro t k
      refine k13 t ?_
      refine XS.icmpYes X00.here hx rfl (pc0 := 20) (pc' := 26) rfl (hb hby Wa) rfl (flt hc14).2.2.2 (by decide) (by decide) ?_
      refine XS.aloadN X00.here hx rfl (hb hby Ac) rfl rfl ?_
      refine XS.iloadN X00.here hx rfl (hb hby Bc) rfl ?_
      refine XS.iload X00.here hx rfl (hb hby Dc) rfl ?_
      refine XS.i2b X00.here hx rfl (hb hby Gc) rfl ?_
      refine st18 _ ?_
      refine XS.iinc X18.here hx rfl (hb hby Ic) rfl (l' := #[.val (.ref t0), .val (.int ((0 : Int32) + (1 : Int32))), .val (.ref t1), .val (.int 0), .val (.int 3), .val (.int 0), .val (.int c0)]) rfl ?_
      show Ga p e below m T18 35 #[.val (.ref t0), .val (.int ((0 : Int32) + (1 : Int32))), .val (.ref t1), .val (.int 0), .val (.int 3), .val (.int 0), .val (.int c0)] [] t
      rw [show ((0 : Int32) + (1 : Int32)) = (1 : Int32) from by decide]
      show Ga p e below m T18 35 #[.val (.ref t0), .val (.int 1), .val (.ref t1), .val (.int 0), .val (.int 3), .val (.int 0), .val (.int c0)] [] t
      refine XS.iinc X18.here hx rfl (hb hby Kc) rfl (l' := #[.val (.ref t0), .val (.int 1), .val (.ref t1), .val (.int ((0 : Int32) + (1 : Int32))), .val (.int 3), .val (.int 0), .val (.int c0)]) rfl ?_
      show Ga p e below m T18 38 #[.val (.ref t0), .val (.int 1), .val (.ref t1), .val (.int ((0 : Int32) + (1 : Int32))), .val (.int 3), .val (.int 0), .val (.int c0)] [] t
      rw [show ((0 : Int32) + (1 : Int32)) = (1 : Int32) from by decide]
      refine XS.iinc X18.here hx rfl (hb hby Lc) rfl (l' := #[.val (.ref t0), .val (.int 1), .val (.ref t1), .val (.int 1), .val (.int 3), .val (.int ((0 : Int32) + (1 : Int32))), .val (.int c0)]) rfl ?_
      show Ga p e below m T18 41 #[.val (.ref t0), .val (.int 1), .val (.ref t1), .val (.int 1), .val (.int 3), .val (.int ((0 : Int32) + (1 : Int32))), .val (.int c0)] [] t
      rw [show ((0 : Int32) + (1 : Int32)) = (1 : Int32) from by decide]
      refine XS.goto X18.here hx rfl (pc0 := 41) (pc' := 3) rfl (hb hby Mc) (by decide) (by decide) ?_
      refine XS.iload X18.here hx rfl (hb hby Hb) rfl ?_
      refine XS.iload X18.here hx rfl (hb hby Ib) rfl ?_
      refine XS.icmpNo X18.here hx rfl (hb hby Kb) rfl (tlt (by decide : (1 : Int32) < (3 : Int32))).2.1 ?_
      show Ga p e below m T18 10 #[.val (.ref t0), .val (.int 1), .val (.ref t1), .val (.int 1), .val (.int 3), .val (.int 1), .val (.int c0)] [] t
      refine XS.aloadN X18.here hx rfl (hb hby Mb) rfl rfl ?_
      refine XS.iloadN X18.here hx rfl (hb hby Pb) rfl ?_
      refine X18.caload hx (j := (1 : Int32)) (v := (.int c1)) (by rw [e18]; exact Ar20.1) (State.isArrayOf_alike hZ.alike Ar20.2.1) Ar20.2.2 hin21 hat22 (g := (mkF m 12 #[.val (.ref t0), .val (.int 1), .val (.ref t1), .val (.int 1), .val (.int 3), .val (.int 1), .val (.int c0)] [(.int 1), (.ref t0)])) rfl rfl (hb hby Rb) _ ?_
      refine XS.istore X18.here hx rfl (hb hby Ub) rfl (l' := #[.val (.ref t0), .val (.int 1), .val (.ref t1), .val (.int 1), .val (.int 3), .val (.int 1), .val (.int c1)]) rfl ?_
      refine XS.iload X18.here hx rfl (hb hby Vb) rfl ?_
      refine XS.sipush X18.here hx rfl (hb hby Wb) ?_
      exact k
    by_cases hc24 : (255 : Int32) < c1
    · have k25 : ∀ t, Ga p e below m T18 25 #[.val (.ref t0), .val (.int 1), .val (.ref t1), .val (.int 1), .val (.int 3), .val (.int 1), .val (.int c1)] [(.int 1)] t → Ra p e below m s₁ #[(.ref t0), (.int 0), (.ref t1), (.int 0), (.int 3)] 7 t := by
        intro t k
        refine k23 t ?_
        refine XS.icmpNo X18.here hx rfl (hb hby Wa) rfl (tlt hc24).2.2.2 ?_
        refine XS.iload X18.here hx rfl (hb hby Yb) rfl ?_
        exact k
      obtain ⟨fs, hr, hrun, hended, hW, hsame⟩ := X18.leave (v := some (.int 1)) (fun h => by rw [Bd.returns] at h; cases h)
      refine hNG ⟨_, _, k25 _ ?_, hrun, hended, _, _, rfl, ?_, ⟨_, rfl⟩, hW, hsame.mono (by decide) (by decide)⟩
      · exact retOut X18 hx (t := .int) Bd.returns rfl (Or.inl ⟨rfl, Or.inl rfl, _, rfl⟩) (hb hby Zb) hr
      · show Wo Z t0 t1 k0 k1 c0 c1 c2 Ba Aa h0 n0 _ T18.heap _
        rw [e18]
        exact ⟨(1 : Int32), _, rfl, N18, O18, K18, V18, (Or.inr (Or.inr (Or.inl ⟨rfl, hc24⟩)))⟩
    · obtain ⟨cl26, Ar26, q26, Sz26, Nn26, Hs26, Gf26⟩ := id V18
      have hin27 : ¬ ((1 : Int32) < 0 ∨ cl26.slots.size ≤ ((1 : Int32)).toNatClampNeg) := inb_of Sz26 ⟨by decide, by decide⟩
      obtain ⟨T28, h28, X28, e28, W28, st28⟩ := stB X18 hx hZ e18 Ar26 (j := (1 : Int32)) hin27 (g := (mkF m 31 #[.val (.ref t0), .val (.int 1), .val (.ref t1), .val (.int 1), .val (.int 3), .val (.int 1), .val (.int c1)] [(.int (c1.toInt8.toInt32)), (.int 1), (.ref t1)])) rfl rfl (hb hby Hc)
      have V28 : Arv Z h28 t1 k1 .byte (3 : Int32) [(.int ((c0.toInt8.toInt32).toInt8.toInt32)), (.int ((c1.toInt8.toInt32).toInt8.toInt32)), (.int 0)] (.int 0) := Arv.set Ar26 q26 Sz26 Nn26 Hs26 Gf26 (fits_nar_byte _) W28 1 rfl (Nat.le_of_ble_eq_true rfl)
      have N28 := Fr.snoc X28 N18 g_t1
      have O28 := O18.wr W28 g_t1
      have K28 := K18.wr W28 (Or.inl (List.mem_of_getElem? (i := 0) rfl))
      have f29 := (f19.other W28 nt)
      obtain ⟨cl30, Ar30, q30, Sz30, Nn30, Hs30, Gf30⟩ := id f29
      have hin31 : ¬ ((2 : Int32) < 0 ∨ cl30.slots.size ≤ ((2 : Int32)).toNatClampNeg) := inb_of Sz30 ⟨by decide, by decide⟩
      have hat32 : cl30.slots[((2 : Int32)).toNatClampNeg]? = some (.int c2) := Hs30.at hin31 rfl
      have k33 : ∀ t, Ga p e below m T28 20 #[.val (.ref t0), .val (.int 2), .val (.ref t1), .val (.int 2), .val (.int 3), .val (.int 2), .val (.int c2)] [(.int 255), (.int c2)] t → Ra p e below m s₁ #[(.ref t0), (.int 0), (.ref t1), (.int 0), (.int 3)] 7 t := by
        intro t k
        refine k23 t ?_
        refine XS.icmpYes X18.here hx rfl (pc0 := 20) (pc' := 26) rfl (hb hby Wa) rfl (flt hc24).2.2.2 (by decide) (by decide) ?_
        refine XS.aloadN X18.here hx rfl (hb hby Ac) rfl rfl ?_
        refine XS.iloadN X18.here hx rfl (hb hby Bc) rfl ?_
        refine XS.iload X18.here hx rfl (hb hby Dc) rfl ?_
        refine XS.i2b X18.here hx rfl (hb hby Gc) rfl ?_
        refine st28 _ ?_
        refine XS.iinc X28.here hx rfl (hb hby Ic) rfl (l' := #[.val (.ref t0), .val (.int ((1 : Int32) + (1 : Int32))), .val (.ref t1), .val (.int 1), .val (.int 3), .val (.int 1), .val (.int c1)]) rfl ?_
        show Ga p e below m T28 35 #[.val (.ref t0), .val (.int ((1 : Int32) + (1 : Int32))), .val (.ref t1), .val (.int 1), .val (.int 3), .val (.int 1), .val (.int c1)] [] t
        rw [show ((1 : Int32) + (1 : Int32)) = (2 : Int32) from by decide]
        show Ga p e below m T28 35 #[.val (.ref t0), .val (.int 2), .val (.ref t1), .val (.int 1), .val (.int 3), .val (.int 1), .val (.int c1)] [] t
        refine XS.iinc X28.here hx rfl (hb hby Kc) rfl (l' := #[.val (.ref t0), .val (.int 2), .val (.ref t1), .val (.int ((1 : Int32) + (1 : Int32))), .val (.int 3), .val (.int 1), .val (.int c1)]) rfl ?_
        show Ga p e below m T28 38 #[.val (.ref t0), .val (.int 2), .val (.ref t1), .val (.int ((1 : Int32) + (1 : Int32))), .val (.int 3), .val (.int 1), .val (.int c1)] [] t
        rw [show ((1 : Int32) + (1 : Int32)) = (2 : Int32) from by decide]
        refine XS.iinc X28.here hx rfl (hb hby Lc) rfl (l' := #[.val (.ref t0), .val (.int 2), .val (.ref t1), .val (.int 2), .val (.int 3), .val (.int ((1 : Int32) + (1 : Int32))), .val (.int c1)]) rfl ?_
        show Ga p e below m T28 41 #[.val (.ref t0), .val (.int 2), .val (.ref t1), .val (.int 2), .val (.int 3), .val (.int ((1 : Int32) + (1 : Int32))), .val (.int c1)] [] t
        rw [show ((1 : Int32) + (1 : Int32)) = (2 : Int32) from by decide]
        refine XS.goto X28.here hx rfl (pc0 := 41) (pc' := 3) rfl (hb hby Mc) (by decide) (by decide) ?_
        refine XS.iload X28.here hx rfl (hb hby Hb) rfl ?_
        refine XS.iload X28.here hx rfl (hb hby Ib) rfl ?_
        refine XS.icmpNo X28.here hx rfl (hb hby Kb) rfl (tlt (by decide : (2 : Int32) < (3 : Int32))).2.1 ?_
        show Ga p e below m T28 10 #[.val (.ref t0), .val (.int 2), .val (.ref t1), .val (.int 2), .val (.int 3), .val (.int 2), .val (.int c1)] [] t
        refine XS.aloadN X28.here hx rfl (hb hby Mb) rfl rfl ?_
        refine XS.iloadN X28.here hx rfl (hb hby Pb) rfl ?_
        refine X28.caload hx (j := (2 : Int32)) (v := (.int c2)) (by rw [e28]; exact Ar30.1) (State.isArrayOf_alike hZ.alike Ar30.2.1) Ar30.2.2 hin31 hat32 (g := (mkF m 12 #[.val (.ref t0), .val (.int 2), .val (.ref t1), .val (.int 2), .val (.int 3), .val (.int 2), .val (.int c1)] [(.int 2), (.ref t0)])) rfl rfl (hb hby Rb) _ ?_
        refine XS.istore X28.here hx rfl (hb hby Ub) rfl (l' := #[.val (.ref t0), .val (.int 2), .val (.ref t1), .val (.int 2), .val (.int 3), .val (.int 2), .val (.int c2)]) rfl ?_
        refine XS.iload X28.here hx rfl (hb hby Vb) rfl ?_
        refine XS.sipush X28.here hx rfl (hb hby Wb) ?_
        exact k
      by_cases hc34 : (255 : Int32) < c2
      · have k35 : ∀ t, Ga p e below m T28 25 #[.val (.ref t0), .val (.int 2), .val (.ref t1), .val (.int 2), .val (.int 3), .val (.int 2), .val (.int c2)] [(.int 2)] t → Ra p e below m s₁ #[(.ref t0), (.int 0), (.ref t1), (.int 0), (.int 3)] 7 t := by
          intro t k
          refine k33 t ?_
          refine XS.icmpNo X28.here hx rfl (hb hby Wa) rfl (tlt hc34).2.2.2 ?_
          refine XS.iload X28.here hx rfl (hb hby Yb) rfl ?_
          exact k
        obtain ⟨fs, hr, hrun, hended, hW, hsame⟩ := X28.leave (v := some (.int 2)) (fun h => by rw [Bd.returns] at h; cases h)
        refine hNG ⟨_, _, k35 _ ?_, hrun, hended, _, _, rfl, ?_, ⟨_, rfl⟩, hW, hsame.mono (by decide) (by decide)⟩
        · exact retOut X28 hx (t := .int) Bd.returns rfl (Or.inl ⟨rfl, Or.inl rfl, _, rfl⟩) (hb hby Zb) hr
        · show Wo Z t0 t1 k0 k1 c0 c1 c2 Ba Aa h0 n0 _ T28.heap _
          rw [e28]
          exact ⟨(2 : Int32), _, rfl, N28, O28, K28, V28, (Or.inr (Or.inr (Or.inr (⟨rfl, hc34⟩))))⟩
      · obtain ⟨cl36, Ar36, q36, Sz36, Nn36, Hs36, Gf36⟩ := id V28
        have hin37 : ¬ ((2 : Int32) < 0 ∨ cl36.slots.size ≤ ((2 : Int32)).toNatClampNeg) := inb_of Sz36 ⟨by decide, by decide⟩
        obtain ⟨T38, h38, X38, e38, W38, st38⟩ := stB X28 hx hZ e28 Ar36 (j := (2 : Int32)) hin37 (g := (mkF m 31 #[.val (.ref t0), .val (.int 2), .val (.ref t1), .val (.int 2), .val (.int 3), .val (.int 2), .val (.int c2)] [(.int (c2.toInt8.toInt32)), (.int 2), (.ref t1)])) rfl rfl (hb hby Hc)
        have V38 : Arv Z h38 t1 k1 .byte (3 : Int32) [(.int ((c0.toInt8.toInt32).toInt8.toInt32)), (.int ((c1.toInt8.toInt32).toInt8.toInt32)), (.int ((c2.toInt8.toInt32).toInt8.toInt32))] (.int 0) := Arv.set Ar36 q36 Sz36 Nn36 Hs36 Gf36 (fits_nar_byte _) W38 2 rfl (Nat.le_of_ble_eq_true rfl)
        have N38 := Fr.snoc X38 N28 g_t1
        have O38 := O28.wr W38 g_t1
        have K38 := K28.wr W38 (Or.inl (List.mem_of_getElem? (i := 0) rfl))
        have k39 : ∀ t, Ga p e below m T38 46 #[.val (.ref t0), .val (.int 3), .val (.ref t1), .val (.int 3), .val (.int 3), .val (.int 3), .val (.int c2)] [(.int 3)] t → Ra p e below m s₁ #[(.ref t0), (.int 0), (.ref t1), (.int 0), (.int 3)] 7 t := by
          intro t k
          refine k33 t ?_
          refine XS.icmpYes X28.here hx rfl (pc0 := 20) (pc' := 26) rfl (hb hby Wa) rfl (flt hc34).2.2.2 (by decide) (by decide) ?_
          refine XS.aloadN X28.here hx rfl (hb hby Ac) rfl rfl ?_
          refine XS.iloadN X28.here hx rfl (hb hby Bc) rfl ?_
          refine XS.iload X28.here hx rfl (hb hby Dc) rfl ?_
          refine XS.i2b X28.here hx rfl (hb hby Gc) rfl ?_
          refine st38 _ ?_
          refine XS.iinc X38.here hx rfl (hb hby Ic) rfl (l' := #[.val (.ref t0), .val (.int ((2 : Int32) + (1 : Int32))), .val (.ref t1), .val (.int 2), .val (.int 3), .val (.int 2), .val (.int c2)]) rfl ?_
          show Ga p e below m T38 35 #[.val (.ref t0), .val (.int ((2 : Int32) + (1 : Int32))), .val (.ref t1), .val (.int 2), .val (.int 3), .val (.int 2), .val (.int c2)] [] t
          rw [show ((2 : Int32) + (1 : Int32)) = (3 : Int32) from by decide]
          show Ga p e below m T38 35 #[.val (.ref t0), .val (.int 3), .val (.ref t1), .val (.int 2), .val (.int 3), .val (.int 2), .val (.int c2)] [] t
          refine XS.iinc X38.here hx rfl (hb hby Kc) rfl (l' := #[.val (.ref t0), .val (.int 3), .val (.ref t1), .val (.int ((2 : Int32) + (1 : Int32))), .val (.int 3), .val (.int 2), .val (.int c2)]) rfl ?_
          show Ga p e below m T38 38 #[.val (.ref t0), .val (.int 3), .val (.ref t1), .val (.int ((2 : Int32) + (1 : Int32))), .val (.int 3), .val (.int 2), .val (.int c2)] [] t
          rw [show ((2 : Int32) + (1 : Int32)) = (3 : Int32) from by decide]
          refine XS.iinc X38.here hx rfl (hb hby Lc) rfl (l' := #[.val (.ref t0), .val (.int 3), .val (.ref t1), .val (.int 3), .val (.int 3), .val (.int ((2 : Int32) + (1 : Int32))), .val (.int c2)]) rfl ?_
          show Ga p e below m T38 41 #[.val (.ref t0), .val (.int 3), .val (.ref t1), .val (.int 3), .val (.int 3), .val (.int ((2 : Int32) + (1 : Int32))), .val (.int c2)] [] t
          rw [show ((2 : Int32) + (1 : Int32)) = (3 : Int32) from by decide]
          refine XS.goto X38.here hx rfl (pc0 := 41) (pc' := 3) rfl (hb hby Mc) (by decide) (by decide) ?_
          refine XS.iload X38.here hx rfl (hb hby Hb) rfl ?_
          refine XS.iload X38.here hx rfl (hb hby Ib) rfl ?_
          refine XS.icmpYes X38.here hx rfl (pc0 := 7) (pc' := 44) rfl (hb hby Kb) rfl (flt (by decide : ¬ ((3 : Int32) < (3 : Int32)))).2.1 (by decide) (by decide) ?_
          show Ga p e below m T38 44 #[.val (.ref t0), .val (.int 3), .val (.ref t1), .val (.int 3), .val (.int 3), .val (.int 3), .val (.int c2)] [] t
          refine XS.iload X38.here hx rfl (hb hby Zi) rfl ?_
          exact k
        obtain ⟨fs, hr, hrun, hended, hW, hsame⟩ := X38.leave (v := some (.int 3)) (fun h => by rw [Bd.returns] at h; cases h)
        refine hNG ⟨_, _, k39 _ ?_, hrun, hended, _, _, rfl, ?_, ⟨_, rfl⟩, hW, hsame.mono (by decide) (by decide)⟩
        · exact retOut X38 hx (t := .int) Bd.returns rfl (Or.inl ⟨rfl, Or.inl rfl, _, rfl⟩) (hb hby Aj) hr
        · show Wo Z t0 t1 k0 k1 c0 c1 c2 Ba Aa h0 n0 _ T38.heap _
          rw [e38]
          exact ⟨(3 : Int32), _, rfl, N38, O38, K38, V38, (Or.inl rfl)⟩
theorem Ay (m : MethodId) (x0 : Int32)  : entryFrame m #[(.int x0)] 1 = mkF m 0 #[.val (.int x0)] [] := by first | (simp [entryFrame, mkF, argsToLocals, Value.category]; done) | rfl
theorem ef_f3 (m : MethodId) (x0 : Int32)  : entryFrame m #[(.int x0)] 1 = mkF m 0 #[.val (.int x0)] [] := by first | (simp [entryFrame, mkF, argsToLocals, Value.category]; done) | rfl
def Q_f3 (Z : State) (Ba : Int32) (Aa : Value) (h0 : Heap) (n0 : Nat) (v : Option Value) (h : Heap) (L : List Loc) : Prop := v = some (.int 6) ∧ Fr n0 L ∧ h = h0
set_option maxRecDepth 65536 in
set_option maxHeartbeats 40000000 in
theorem rm_f3 (l : Launch) (Z : State) (a0 : Array Value) (hw : ∀ d ∈ tables_1, d.before a0 Z = true) (ws : List Jvm.Cond) (Ba : Int32) (Aa : Value) (h0 : Heap) (n0 : Nat) (O0 : Old Z n0 h0) (hE : EV Z Ba Aa) :
    MetFree l Mm (head1 (Jvm.Cond.code Mm jdk_52_method_3_code 1 (some .int) :: ws) ({ frames := 0, cells := 0, slots := 0, locals := 0 } : Room)) (fun a U => a = #[(.int 3)] ∧ Z.Warmed39 U.vm ∧ U.heap = h0) (fun _ _ _ _ _ => True) (fun _ U o U' => ∃ v L, o = .returned v ∧ Q_f3 Z Ba Aa h0 n0 v U'.heap L ∧ FrameEnd U o U' L ({ frames := 0, cells := 0, slots := 0, locals := 0 } : Room).cells ({ frames := 0, cells := 0, slots := 0, locals := 0 } : Room).slots) := by
  refine MetFree.of_bodySF (plainFor_of_name Pa) hisR ?_
  intro p e s m args below meth c s₁ Bd hml0 hP hK
  obtain ⟨rfl, hZ, hh⟩ := hP
  have hx := Bd.exec
  have hby := Bd.bytes
  have hml : c.maxLocals = 1 := hml0
  have hown : s.vm.findClass "java/lang/StringUTF16" = some m.cls := findClass_of_methodNamed Bd.named
  have hnm := (name_of_methodNamed Bd.named Bd.method).1
  have X00 : Stand p l e ({ frames := 0, cells := 0, slots := 0, locals := 0 } : Room) s m #[(.int 3)] below meth c s₁ [] 0 0 := Stand.of_body Bd
  have e00 : s₁.heap = h0 := by rw [← hh, Bd.state]; rfl
  have N00 := Fr.nil n0
  refine Classical.byContradiction fun hNG => ?_
  have K00 := Keep.refl h0 []
  have k00 : ∀ t, Ga p e below m s₁ 0 #[.val (.int 3)] [] t → Ra p e below m s₁ #[(.int 3)] 1 t := fun t k => castTop (ef_f3 m ((3 : Int32)) ) k
  obtain ⟨Ua, La, Va, Ma, Ha, Ia, Ka⟩ := (id hE : EV Z Ba Aa)
  have k10 : ∀ t, Ga p e below m s₁ 58 #[.val (.int 3)] [(.int 6)] t → Ra p e below m s₁ #[(.int 3)] 1 t := by
    intro t k
    refine k00 t ?_
    refine XS.iloadN X00.here hx rfl (hb hby Gl) rfl ?_
    refine XS.ifYes X00.here hx rfl (pc0 := 1) (pc' := 12) rfl (hb hby Hl) rfl ((if0 _ _).trans (flt (by decide : ¬ ((3 : Int32) < (0 : Int32)))).2.1) (by decide) (by decide) ?_
    refine XS.iloadN X00.here hx rfl (hb hby Vj) rfl ?_
    refine X00.ldcI hx hown (mvT hZ (Da hw 56 rfl)) rfl (hb hby Wj) ?_
    refine XS.icmpYes X00.here hx rfl (pc0 := 15) (pc' := 55) rfl (hb hby Yj) rfl (tlt (by decide : (3 : Int32) < (1073741823 : Int32))).1 (by decide) (by decide) ?_
    refine XS.iloadN X00.here hx rfl (hb hby Zj) rfl ?_
    refine XS.iconst X00.here hx rfl (hb hby Ak) ?_
    refine XS.ishl X00.here hx rfl (hb hby Bk) rfl ?_
    show Ga p e below m s₁ 58 #[.val (.int 3)] [(.int ((3 : Int32) <<< ((1 : Int32) &&& 31)))] t
    rw [show ((3 : Int32) <<< ((1 : Int32) &&& 31)) = (6 : Int32) from by decide]
    exact k
  obtain ⟨fs, hr, hrun, hended, hW, hsame⟩ := X00.leave (v := some (.int 6)) (fun h => by rw [Bd.returns] at h; cases h)
  refine hNG ⟨_, _, k10 _ ?_, hrun, hended, _, _, rfl, ?_, ⟨_, rfl⟩, hW, hsame.mono (by decide) (by decide)⟩
  · exact retOut X00 hx (t := .int) Bd.returns rfl (Or.inl ⟨rfl, Or.inl rfl, _, rfl⟩) (hb hby Dk) hr
  · show Q_f3 Z Ba Aa h0 n0 _ s₁.heap _
    rw [e00]
    exact ⟨rfl, N00, rfl⟩
def Ls (Z : State) (Ba : Int32) (Aa : Value) (h0 : Heap) (n0 : Nat) (v : Option Value) (h : Heap) (L : List Loc) : Prop := ∃ (b : Addr) (k : ClassId), v = some (.ref b) ∧ Fr n0 L ∧ Old Z n0 h ∧ Keep h0 h [] ∧ n0 ≤ b ∧ h0.size ≤ b ∧ Arv Z h b k .byte (6 : Int32) [(.int 0), (.int 0), (.int 0), (.int 0), (.int 0), (.int 0)] (.int 0)
set_option maxRecDepth 65536 in
set_option maxHeartbeats 40000000 in
theorem Dy (l : Launch) (Z : State) (a0 : Array Value) (hw : ∀ d ∈ tables_1, d.before a0 Z = true) (ws : List Jvm.Cond) (Ba : Int32) (Aa : Value) (h0 : Heap) (n0 : Nat) (O0 : Old Z n0 h0) (hE : EV Z Ba Aa) :
    MetFree l Pm (head1 (Jvm.Cond.code Pm jdk_52_method_2_code 1 (some (.array .byte)) :: ws) ({ frames := 1, cells := 1, slots := 6, locals := 12 } : Room)) (fun a U => a = #[(.int 3)] ∧ Z.Warmed39 U.vm ∧ U.heap = h0) (fun _ _ _ _ _ => True) (fun _ U o U' => ∃ v L, o = .returned v ∧ Ls Z Ba Aa h0 n0 v U'.heap L ∧ FrameEnd U o U' L ({ frames := 1, cells := 1, slots := 6, locals := 12 } : Room).cells ({ frames := 1, cells := 1, slots := 6, locals := 12 } : Room).slots) := by
  refine MetFree.of_bodySF (plainFor_of_name Pa) hisR ?_
  intro p e s m args below meth c s₁ Bd hml0 hP hK
  obtain ⟨rfl, hZ, hh⟩ := hP
  have hx := Bd.exec
  have hby := Bd.bytes
  have hml : c.maxLocals = 1 := hml0
  have hown : s.vm.findClass "java/lang/StringUTF16" = some m.cls := findClass_of_methodNamed Bd.named
  have hnm := (name_of_methodNamed Bd.named Bd.method).1
  have X00 : Stand p l e ({ frames := 1, cells := 1, slots := 6, locals := 12 } : Room) s m #[(.int 3)] below meth c s₁ [] 0 0 := Stand.of_body Bd
  have e00 : s₁.heap = h0 := by rw [← hh, Bd.state]; rfl
  have N00 := Fr.nil n0
  refine Classical.byContradiction fun hNG => ?_
  have K00 := Keep.refl h0 []
  have k00 : ∀ t, Ga p e below m s₁ 0 #[.val (.int 3)] [] t → Ra p e below m s₁ #[(.int 3)] 1 t := fun t k => castTop (Ay m ((3 : Int32)) ) k
  obtain ⟨Ua, La, Va, Ma, Ha, Ia, Ka⟩ := (id hE : EV Z Ba Aa)
  obtain ⟨_, _, ⟨T10, L10, k10, n10⟩, -, X10, ⟨Lc10, hQ10, l10, y10, z10⟩, st10⟩ := Jvm.LawKit.callS X00 hx (y := Mm) hown (mvT hZ (Da hw 53 rfl)) (mvT hZ (Da hw 54 rfl)) (mvT hZ (Da hw 18 rfl)) (mvT hZ (Da hw 55 rfl)) (by decide) (backOf (W := 0) (rm_f3 l Z a0 hw []  _ _ h0 n0 O0 hE) hZ (Da hw 55 rfl) (Da hw 18 rfl) (by decide) (by decide)) (g := (mkF m 1 #[.val (.int 3)] [(.int 3)])) rfl (by rw [hml]; rfl) (argsL := [(.int 3)]) (rest := []) (lenOf Kp rfl) rfl (by show 2 * 0 + _ ≤ _; exact Nat.le_of_eq rfl) (hb hby Dl) (fun _ _ => ⟨rfl, e00, (by decide : 0 + 0 ≤ _), (by decide : 0 + 0 ≤ _)⟩)
  dsimp only [Pt.U, Pt.locs, Pt.cells, Pt.slots] at X10 l10 y10 z10 st10 hQ10
  subst l10 y10 z10
  obtain ⟨rfl, N10q, hp10⟩ := hQ10
  have N10 := Fr.app N00 N10q
  obtain ⟨T11, h11, c11, X11, e11, E11, A11, st11⟩ := newP X10 hx hZ (Da hw 20 rfl) hp10 (g := (mkF m 4 #[.val (.int 3)] [(.int 6)])) rfl (hb hby Il) rfl (by decide) (cap := 6) (by decide) (by decide) (by decide) (by decide)
  obtain ⟨b11, g11⟩ : ∃ z, z = h0.size := ⟨_, rfl⟩
  rw [← g11] at A11 st11
  have O11 := O0.ext E11
  have g_b11 : n0 ≤ b11 := Nat.le_trans (Nat.le_of_eq O0.1.symm) (Nat.le_trans O0.2.1 (Nat.le_of_eq g11.symm))
  have s_b11 : h0.size ≤ b11 := Nat.le_trans K00.1 (Nat.le_of_eq g11.symm)
  have K11 := K00.ext E11
  have V11 : Arv Z h11 b11 c11 .byte (6 : Int32) [(.int 0), (.int 0), (.int 0), (.int 0), (.int 0), (.int 0)] (.int 0) := (Arv.new A11 (by decide)).pad (pad_rep [] (.int 0) 6)
  have lt_b11 := V11.lt
  have k12 : ∀ t, Ga p e below m T11 6 #[.val (.int 3)] [(.ref b11)] t → Ra p e below m s₁ #[(.int 3)] 1 t := by
    intro t k
    refine k00 t ?_
    refine XS.iloadN X00.here hx rfl (hb hby Bl) rfl ?_
    refine st10 _ ?_
    refine st11 _ ?_
    exact k
  obtain ⟨fs, hr, hrun, hended, hW, hsame⟩ := X11.leave (v := some (.ref b11)) (fun h => by rw [Bd.returns] at h; cases h)
  refine hNG ⟨_, _, k12 _ ?_, hrun, hended, _, _, rfl, ?_, ⟨_, rfl⟩, hW, hsame.mono (by decide) (by decide)⟩
  · exact retOut X11 hx (t := (.array .byte)) Bd.returns rfl (Or.inr (Or.inr (Or.inr (Or.inr ⟨rfl, rfl, rfl⟩)))) (hb hby Kl) hr
  · show Ls Z Ba Aa h0 n0 _ T11.heap _
    rw [e11]
    exact ⟨b11, c11, rfl, N10, O11, K11, g_b11, s_b11, V11⟩
theorem Gu (m : MethodId) (x0 : Addr) (x1 : Int32) (x2 : Int32)  : entryFrame m #[(.ref x0), (.int x1), (.int x2)] 3 = mkF m 0 #[.val (.ref x0), .val (.int x1), .val (.int x2)] [] := by first | (simp [entryFrame, mkF, argsToLocals, Value.category]; done) | rfl
def Zq (Z : State) (q0 : Addr) (k0 : ClassId) (cq : Int32) (x0 : Int32) (x1 : Int32) (x2 : Int32) (x3 : Int32) (x4 : Int32) (x5 : Int32) (Ba : Int32) (Aa : Value) (h0 : Heap) (n0 : Nat) (v : Option Value) (h : Heap) (L : List Loc) : Prop := v = none ∧ Fr n0 L ∧ Old Z n0 h ∧ Keep h0 h [q0] ∧ Arv Z h q0 k0 .byte (6 : Int32) [(.int ((cq >>> ((0 : Int32) &&& 31)).toInt8.toInt32)), (.int ((cq >>> ((8 : Int32) &&& 31)).toInt8.toInt32)), (.int x2), (.int x3), (.int x4), (.int x5)] (.int 0)
set_option maxRecDepth 65536 in
set_option maxHeartbeats 40000000 in
theorem Hu (l : Launch) (Z : State) (a0 : Array Value) (hw : ∀ d ∈ tables_1, d.before a0 Z = true) (ws : List Jvm.Cond) (q0 : Addr) (k0 : ClassId) (cq : Int32) (x0 : Int32) (x1 : Int32) (x2 : Int32) (x3 : Int32) (x4 : Int32) (x5 : Int32) (Ba : Int32) (Aa : Value) (h0 : Heap) (n0 : Nat) (O0 : Old Z n0 h0) (hE : EV Z Ba Aa) (P0 : Arv Z h0 q0 k0 .byte (6 : Int32) [(.int x0), (.int x1), (.int x2), (.int x3), (.int x4), (.int x5)] (.int 0)) (g_q0 : n0 ≤ q0) :
    MetFree l Gi (head1 (Jvm.Cond.code Gi jdk_52_method_4_code 3 none :: ws) ({ frames := 0, cells := 0, slots := 0, locals := 0 } : Room)) (fun a U => a = #[(.ref q0), (.int 0), (.int cq)] ∧ Z.Warmed39 U.vm ∧ U.heap = h0) (fun _ _ _ _ _ => True) (fun _ U o U' => ∃ v L, o = .returned v ∧ Zq Z q0 k0 cq x0 x1 x2 x3 x4 x5 Ba Aa h0 n0 v U'.heap L ∧ FrameEnd U o U' L ({ frames := 0, cells := 0, slots := 0, locals := 0 } : Room).cells ({ frames := 0, cells := 0, slots := 0, locals := 0 } : Room).slots) := by
  refine MetFree.of_bodySF (plainFor_of_name Pa) hisR ?_
  intro p e s m args below meth c s₁ Bd hml0 hP hK
  obtain ⟨rfl, hZ, hh⟩ := hP
  have hx := Bd.exec
  have hby := Bd.bytes
  have hml : c.maxLocals = 3 := hml0
  have hown : s.vm.findClass "java/lang/StringUTF16" = some m.cls := findClass_of_methodNamed Bd.named
  have hnm := (name_of_methodNamed Bd.named Bd.method).1
  have X00 : Stand p l e ({ frames := 0, cells := 0, slots := 0, locals := 0 } : Room) s m #[(.ref q0), (.int 0), (.int cq)] below meth c s₁ [] 0 0 := Stand.of_body Bd
  have e00 : s₁.heap = h0 := by rw [← hh, Bd.state]; rfl
  have N00 := Fr.nil n0
  refine Classical.byContradiction fun hNG => ?_
  have K00 := Keep.refl h0 [q0]
  have k00 : ∀ t, Ga p e below m s₁ 0 #[.val (.ref q0), .val (.int 0), .val (.int cq)] [] t → Ra p e below m s₁ #[(.ref q0), (.int 0), (.int cq)] 3 t := fun t k => castTop (Gu m q0 ((0 : Int32)) cq ) k
  obtain ⟨Ua, La, Va, Ma, Ha, Ia, Ka⟩ := (id hE : EV Z Ba Aa)
  obtain ⟨T10, X10, e10, st10⟩ := getS2 X00 hx hZ hown (host := "") (Or.inl (Da hw 60 rfl)) Via.refl e00 (Ha.ext O0.2) (g := (mkF m 0 #[.val (.ref q0), .val (.int 0), .val (.int cq)] [])) rfl (hb hby Rg)
  obtain ⟨T11, X11, e11, st11⟩ := getS2 X10 hx hZ hown (host := "") (Or.inl (Da hw 61 rfl)) Via.refl e10 (Ia.ext O0.2) (g := (mkF m 38 #[.val (.ref q0), .val (.int 1), .val (.int cq)] [(.int cq), (.int 0), (.ref q0)])) rfl (hb hby Le)
  obtain ⟨cl12, Ar12, q12, Sz12, Nn12, Hs12, Gf12⟩ := id P0
  have hin13 : ¬ ((0 : Int32) < 0 ∨ cl12.slots.size ≤ ((0 : Int32)).toNatClampNeg) := inb_of Sz12 ⟨by decide, by decide⟩
  obtain ⟨T14, h14, X14, e14, W14, st14⟩ := stB X11 hx hZ e11 Ar12 (j := (0 : Int32)) hin13 (g := (mkF m 43 #[.val (.ref q0), .val (.int 1), .val (.int cq)] [(.int ((cq >>> ((0 : Int32) &&& 31)).toInt8.toInt32)), (.int 0), (.ref q0)])) rfl rfl (hb hby Re)
  have V14 : Arv Z h14 q0 k0 .byte (6 : Int32) [(.int ((cq >>> ((0 : Int32) &&& 31)).toInt8.toInt32)), (.int x1), (.int x2), (.int x3), (.int x4), (.int x5)] (.int 0) := by
    have q := Arv.set Ar12 q12 Sz12 Nn12 Hs12 Gf12 (fits_nar_byte _) W14 0 rfl (Nat.le_of_ble_eq_true rfl)
    first | exact q | (simp only [Yi, Di] at q; exact q)
  have N14 := Fr.snoc X14 N00 g_q0
  have O14 := O0.wr W14 g_q0
  have K14 := K00.wr W14 (Or.inl (List.mem_of_getElem? (i := 0) rfl))
  obtain ⟨T15, X15, e15, st15⟩ := getS2 X14 hx hZ hown (host := "") (Or.inl (Da hw 62 rfl)) Via.refl e14 (Ka.ext O14.2) (g := (mkF m 47 #[.val (.ref q0), .val (.int 1), .val (.int cq)] [(.int cq), (.int 1), (.ref q0)])) rfl (hb hby Ye)
  obtain ⟨cl16, Ar16, q16, Sz16, Nn16, Hs16, Gf16⟩ := id V14
  have hin17 : ¬ ((1 : Int32) < 0 ∨ cl16.slots.size ≤ ((1 : Int32)).toNatClampNeg) := inb_of Sz16 ⟨by decide, by decide⟩
  obtain ⟨T18, h18, X18, e18, W18, st18⟩ := stB X15 hx hZ e15 Ar16 (j := (1 : Int32)) hin17 (g := (mkF m 52 #[.val (.ref q0), .val (.int 1), .val (.int cq)] [(.int ((cq >>> ((8 : Int32) &&& 31)).toInt8.toInt32)), (.int 1), (.ref q0)])) rfl rfl (hb hby Bf)
  have V18 : Arv Z h18 q0 k0 .byte (6 : Int32) [(.int ((cq >>> ((0 : Int32) &&& 31)).toInt8.toInt32)), (.int ((cq >>> ((8 : Int32) &&& 31)).toInt8.toInt32)), (.int x2), (.int x3), (.int x4), (.int x5)] (.int 0) := by
    have q := Arv.set Ar16 q16 Sz16 Nn16 Hs16 Gf16 (fits_nar_byte _) W18 1 rfl (Nat.le_of_ble_eq_true rfl)
    first | exact q | (simp only [Yi, Di] at q; exact q)
  have N18 := Fr.snoc X18 N14 g_q0
  have O18 := O14.wr W18 g_q0
  have K18 := K14.wr W18 (Or.inl (List.mem_of_getElem? (i := 0) rfl))
  have k19 : ∀ t, Ga p e below m T18 53 #[.val (.ref q0), .val (.int 1), .val (.int cq)] [] t → Ra p e below m s₁ #[(.ref q0), (.int 0), (.int cq)] 3 t := by
    intro t k
    refine k00 t ?_
    refine st10 _ ?_
    refine XS.ifYes X10.here hx rfl (pc0 := 3) (pc' := 28) rfl (hb hby Ug) rfl ((if0 _ _).trans (feq (by decide : ¬ ((1 : Int32) = (0 : Int32)))).2) (by decide) (by decide) ?_
    refine XS.iloadN X10.here hx rfl (hb hby Zd) rfl ?_
    refine XS.iconst X10.here hx rfl (hb hby Ae) ?_
    refine XS.ishl X10.here hx rfl (hb hby Be) rfl ?_
    show Ga p e below m T10 31 #[.val (.ref q0), .val (.int 0), .val (.int cq)] [(.int ((0 : Int32) <<< ((1 : Int32) &&& 31)))] t
    rw [show ((0 : Int32) <<< ((1 : Int32) &&& 31)) = (0 : Int32) from by decide]
    refine XS.istoreN X10.here hx rfl (hb hby De) rfl (l' := #[.val (.ref q0), .val (.int 0), .val (.int cq)]) rfl ?_
    refine XS.aloadN X10.here hx rfl (hb hby Ge) rfl rfl ?_
    show Ga p e below m T10 33 #[.val (.ref q0), .val (.int 0), .val (.int cq)] [(.ref q0)] t
    refine XS.iloadN X10.here hx rfl (hb hby He) rfl ?_
    refine XS.iinc X10.here hx rfl (hb hby Ie) rfl (l' := #[.val (.ref q0), .val (.int ((0 : Int32) + (1 : Int32))), .val (.int cq)]) rfl ?_
    show Ga p e below m T10 37 #[.val (.ref q0), .val (.int ((0 : Int32) + (1 : Int32))), .val (.int cq)] [(.int 0), (.ref q0)] t
    rw [show ((0 : Int32) + (1 : Int32)) = (1 : Int32) from by decide]
    refine XS.iloadN X10.here hx rfl (hb hby Ke) rfl ?_
    refine st11 _ ?_
    refine XS.ishr X11.here hx rfl (hb hby Me) rfl ?_
    refine XS.i2b X11.here hx rfl (hb hby Pe) rfl ?_
    refine st14 _ ?_
    show Ga p e below m T14 44 #[.val (.ref q0), .val (.int 1), .val (.int cq)] [] t
    refine XS.aloadN X14.here hx rfl (hb hby Ue) rfl rfl ?_
    refine XS.iloadN X14.here hx rfl (hb hby Ve) rfl ?_
    refine XS.iloadN X14.here hx rfl (hb hby We) rfl ?_
    refine st15 _ ?_
    refine XS.ishr X15.here hx rfl (hb hby Ze) rfl ?_
    refine XS.i2b X15.here hx rfl (hb hby Af) rfl ?_
    refine st18 _ ?_
    exact k
  obtain ⟨fs, hr, hrun, hended, hW, hsame⟩ := X18.leave (v := none) (fun _ => rfl)
  refine hNG ⟨_, _, k19 _ ?_, hrun, hended, _, _, rfl, ?_, ⟨_, rfl⟩, hW, hsame.mono (by decide) (by decide)⟩
  · exact X18.returnOut hx Bd.returns (hb hby Df) hr
  · show Zq Z q0 k0 cq x0 x1 x2 x3 x4 x5 Ba Aa h0 n0 _ T18.heap _
    rw [e18]
    exact ⟨rfl, N18, O18, K18, V18⟩
theorem Iu (m : MethodId) (x0 : Addr) (x1 : Int32) (x2 : Int32)  : entryFrame m #[(.ref x0), (.int x1), (.int x2)] 3 = mkF m 0 #[.val (.ref x0), .val (.int x1), .val (.int x2)] [] := by first | (simp [entryFrame, mkF, argsToLocals, Value.category]; done) | rfl
def Ar (Z : State) (q0 : Addr) (k0 : ClassId) (cq : Int32) (x0 : Int32) (x1 : Int32) (x2 : Int32) (x3 : Int32) (x4 : Int32) (x5 : Int32) (Ba : Int32) (Aa : Value) (h0 : Heap) (n0 : Nat) (v : Option Value) (h : Heap) (L : List Loc) : Prop := v = none ∧ Fr n0 L ∧ Old Z n0 h ∧ Keep h0 h [q0] ∧ Arv Z h q0 k0 .byte (6 : Int32) [(.int x0), (.int x1), (.int ((cq >>> ((0 : Int32) &&& 31)).toInt8.toInt32)), (.int ((cq >>> ((8 : Int32) &&& 31)).toInt8.toInt32)), (.int x4), (.int x5)] (.int 0)
set_option maxRecDepth 65536 in
set_option maxHeartbeats 40000000 in
theorem Ku (l : Launch) (Z : State) (a0 : Array Value) (hw : ∀ d ∈ tables_1, d.before a0 Z = true) (ws : List Jvm.Cond) (q0 : Addr) (k0 : ClassId) (cq : Int32) (x0 : Int32) (x1 : Int32) (x2 : Int32) (x3 : Int32) (x4 : Int32) (x5 : Int32) (Ba : Int32) (Aa : Value) (h0 : Heap) (n0 : Nat) (O0 : Old Z n0 h0) (hE : EV Z Ba Aa) (P0 : Arv Z h0 q0 k0 .byte (6 : Int32) [(.int x0), (.int x1), (.int x2), (.int x3), (.int x4), (.int x5)] (.int 0)) (g_q0 : n0 ≤ q0) :
    MetFree l Gi (head1 (Jvm.Cond.code Gi jdk_52_method_4_code 3 none :: ws) ({ frames := 0, cells := 0, slots := 0, locals := 0 } : Room)) (fun a U => a = #[(.ref q0), (.int 1), (.int cq)] ∧ Z.Warmed39 U.vm ∧ U.heap = h0) (fun _ _ _ _ _ => True) (fun _ U o U' => ∃ v L, o = .returned v ∧ Ar Z q0 k0 cq x0 x1 x2 x3 x4 x5 Ba Aa h0 n0 v U'.heap L ∧ FrameEnd U o U' L ({ frames := 0, cells := 0, slots := 0, locals := 0 } : Room).cells ({ frames := 0, cells := 0, slots := 0, locals := 0 } : Room).slots) := by
  refine MetFree.of_bodySF (plainFor_of_name Pa) hisR ?_
  intro p e s m args below meth c s₁ Bd hml0 hP hK
  obtain ⟨rfl, hZ, hh⟩ := hP
  have hx := Bd.exec
  have hby := Bd.bytes
  have hml : c.maxLocals = 3 := hml0
  have hown : s.vm.findClass "java/lang/StringUTF16" = some m.cls := findClass_of_methodNamed Bd.named
  have hnm := (name_of_methodNamed Bd.named Bd.method).1
  have X00 : Stand p l e ({ frames := 0, cells := 0, slots := 0, locals := 0 } : Room) s m #[(.ref q0), (.int 1), (.int cq)] below meth c s₁ [] 0 0 := Stand.of_body Bd
  have e00 : s₁.heap = h0 := by rw [← hh, Bd.state]; rfl
  have N00 := Fr.nil n0
  refine Classical.byContradiction fun hNG => ?_
  have K00 := Keep.refl h0 [q0]
  have k00 : ∀ t, Ga p e below m s₁ 0 #[.val (.ref q0), .val (.int 1), .val (.int cq)] [] t → Ra p e below m s₁ #[(.ref q0), (.int 1), (.int cq)] 3 t := fun t k => castTop (Iu m q0 ((1 : Int32)) cq ) k
  obtain ⟨Ua, La, Va, Ma, Ha, Ia, Ka⟩ := (id hE : EV Z Ba Aa)
  obtain ⟨T10, X10, e10, st10⟩ := getS2 X00 hx hZ hown (host := "") (Or.inl (Da hw 60 rfl)) Via.refl e00 (Ha.ext O0.2) (g := (mkF m 0 #[.val (.ref q0), .val (.int 1), .val (.int cq)] [])) rfl (hb hby Rg)
  obtain ⟨T11, X11, e11, st11⟩ := getS2 X10 hx hZ hown (host := "") (Or.inl (Da hw 61 rfl)) Via.refl e10 (Ia.ext O0.2) (g := (mkF m 38 #[.val (.ref q0), .val (.int 3), .val (.int cq)] [(.int cq), (.int 2), (.ref q0)])) rfl (hb hby Le)
  obtain ⟨cl12, Ar12, q12, Sz12, Nn12, Hs12, Gf12⟩ := id P0
  have hin13 : ¬ ((2 : Int32) < 0 ∨ cl12.slots.size ≤ ((2 : Int32)).toNatClampNeg) := inb_of Sz12 ⟨by decide, by decide⟩
  obtain ⟨T14, h14, X14, e14, W14, st14⟩ := stB X11 hx hZ e11 Ar12 (j := (2 : Int32)) hin13 (g := (mkF m 43 #[.val (.ref q0), .val (.int 3), .val (.int cq)] [(.int ((cq >>> ((0 : Int32) &&& 31)).toInt8.toInt32)), (.int 2), (.ref q0)])) rfl rfl (hb hby Re)
  have V14 : Arv Z h14 q0 k0 .byte (6 : Int32) [(.int x0), (.int x1), (.int ((cq >>> ((0 : Int32) &&& 31)).toInt8.toInt32)), (.int x3), (.int x4), (.int x5)] (.int 0) := by
    have q := Arv.set Ar12 q12 Sz12 Nn12 Hs12 Gf12 (fits_nar_byte _) W14 2 rfl (Nat.le_of_ble_eq_true rfl)
    first | exact q | (simp only [Yi, Di] at q; exact q)
  have N14 := Fr.snoc X14 N00 g_q0
  have O14 := O0.wr W14 g_q0
  have K14 := K00.wr W14 (Or.inl (List.mem_of_getElem? (i := 0) rfl))
  obtain ⟨T15, X15, e15, st15⟩ := getS2 X14 hx hZ hown (host := "") (Or.inl (Da hw 62 rfl)) Via.refl e14 (Ka.ext O14.2) (g := (mkF m 47 #[.val (.ref q0), .val (.int 3), .val (.int cq)] [(.int cq), (.int 3), (.ref q0)])) rfl (hb hby Ye)
  obtain ⟨cl16, Ar16, q16, Sz16, Nn16, Hs16, Gf16⟩ := id V14
  have hin17 : ¬ ((3 : Int32) < 0 ∨ cl16.slots.size ≤ ((3 : Int32)).toNatClampNeg) := inb_of Sz16 ⟨by decide, by decide⟩
  obtain ⟨T18, h18, X18, e18, W18, st18⟩ := stB X15 hx hZ e15 Ar16 (j := (3 : Int32)) hin17 (g := (mkF m 52 #[.val (.ref q0), .val (.int 3), .val (.int cq)] [(.int ((cq >>> ((8 : Int32) &&& 31)).toInt8.toInt32)), (.int 3), (.ref q0)])) rfl rfl (hb hby Bf)
  have V18 : Arv Z h18 q0 k0 .byte (6 : Int32) [(.int x0), (.int x1), (.int ((cq >>> ((0 : Int32) &&& 31)).toInt8.toInt32)), (.int ((cq >>> ((8 : Int32) &&& 31)).toInt8.toInt32)), (.int x4), (.int x5)] (.int 0) := by
    have q := Arv.set Ar16 q16 Sz16 Nn16 Hs16 Gf16 (fits_nar_byte _) W18 3 rfl (Nat.le_of_ble_eq_true rfl)
    first | exact q | (simp only [Yi, Di] at q; exact q)
  have N18 := Fr.snoc X18 N14 g_q0
  have O18 := O14.wr W18 g_q0
  have K18 := K14.wr W18 (Or.inl (List.mem_of_getElem? (i := 0) rfl))
  have k19 : ∀ t, Ga p e below m T18 53 #[.val (.ref q0), .val (.int 3), .val (.int cq)] [] t → Ra p e below m s₁ #[(.ref q0), (.int 1), (.int cq)] 3 t := by
    intro t k
    refine k00 t ?_
    refine st10 _ ?_
    refine XS.ifYes X10.here hx rfl (pc0 := 3) (pc' := 28) rfl (hb hby Ug) rfl ((if0 _ _).trans (feq (by decide : ¬ ((1 : Int32) = (0 : Int32)))).2) (by decide) (by decide) ?_
    refine XS.iloadN X10.here hx rfl (hb hby Zd) rfl ?_
    refine XS.iconst X10.here hx rfl (hb hby Ae) ?_
    refine XS.ishl X10.here hx rfl (hb hby Be) rfl ?_
    show Ga p e below m T10 31 #[.val (.ref q0), .val (.int 1), .val (.int cq)] [(.int ((1 : Int32) <<< ((1 : Int32) &&& 31)))] t
    rw [show ((1 : Int32) <<< ((1 : Int32) &&& 31)) = (2 : Int32) from by decide]
    refine XS.istoreN X10.here hx rfl (hb hby De) rfl (l' := #[.val (.ref q0), .val (.int 2), .val (.int cq)]) rfl ?_
    refine XS.aloadN X10.here hx rfl (hb hby Ge) rfl rfl ?_
    show Ga p e below m T10 33 #[.val (.ref q0), .val (.int 2), .val (.int cq)] [(.ref q0)] t
    refine XS.iloadN X10.here hx rfl (hb hby He) rfl ?_
    refine XS.iinc X10.here hx rfl (hb hby Ie) rfl (l' := #[.val (.ref q0), .val (.int ((2 : Int32) + (1 : Int32))), .val (.int cq)]) rfl ?_
    show Ga p e below m T10 37 #[.val (.ref q0), .val (.int ((2 : Int32) + (1 : Int32))), .val (.int cq)] [(.int 2), (.ref q0)] t
    rw [show ((2 : Int32) + (1 : Int32)) = (3 : Int32) from by decide]
    refine XS.iloadN X10.here hx rfl (hb hby Ke) rfl ?_
    refine st11 _ ?_
    refine XS.ishr X11.here hx rfl (hb hby Me) rfl ?_
    refine XS.i2b X11.here hx rfl (hb hby Pe) rfl ?_
    refine st14 _ ?_
    show Ga p e below m T14 44 #[.val (.ref q0), .val (.int 3), .val (.int cq)] [] t
    refine XS.aloadN X14.here hx rfl (hb hby Ue) rfl rfl ?_
    refine XS.iloadN X14.here hx rfl (hb hby Ve) rfl ?_
    refine XS.iloadN X14.here hx rfl (hb hby We) rfl ?_
    refine st15 _ ?_
    refine XS.ishr X15.here hx rfl (hb hby Ze) rfl ?_
    refine XS.i2b X15.here hx rfl (hb hby Af) rfl ?_
    refine st18 _ ?_
    exact k
  obtain ⟨fs, hr, hrun, hended, hW, hsame⟩ := X18.leave (v := none) (fun _ => rfl)
  refine hNG ⟨_, _, k19 _ ?_, hrun, hended, _, _, rfl, ?_, ⟨_, rfl⟩, hW, hsame.mono (by decide) (by decide)⟩
  · exact X18.returnOut hx Bd.returns (hb hby Df) hr
  · show Ar Z q0 k0 cq x0 x1 x2 x3 x4 x5 Ba Aa h0 n0 _ T18.heap _
    rw [e18]
    exact ⟨rfl, N18, O18, K18, V18⟩
theorem Lu (m : MethodId) (x0 : Addr) (x1 : Int32) (x2 : Int32)  : entryFrame m #[(.ref x0), (.int x1), (.int x2)] 3 = mkF m 0 #[.val (.ref x0), .val (.int x1), .val (.int x2)] [] := by first | (simp [entryFrame, mkF, argsToLocals, Value.category]; done) | rfl
def Br (Z : State) (q0 : Addr) (k0 : ClassId) (cq : Int32) (x0 : Int32) (x1 : Int32) (x2 : Int32) (x3 : Int32) (x4 : Int32) (x5 : Int32) (Ba : Int32) (Aa : Value) (h0 : Heap) (n0 : Nat) (v : Option Value) (h : Heap) (L : List Loc) : Prop := v = none ∧ Fr n0 L ∧ Old Z n0 h ∧ Keep h0 h [q0] ∧ Arv Z h q0 k0 .byte (6 : Int32) [(.int x0), (.int x1), (.int x2), (.int x3), (.int ((cq >>> ((0 : Int32) &&& 31)).toInt8.toInt32)), (.int ((cq >>> ((8 : Int32) &&& 31)).toInt8.toInt32))] (.int 0)
set_option maxRecDepth 65536 in
set_option maxHeartbeats 40000000 in
theorem Mu (l : Launch) (Z : State) (a0 : Array Value) (hw : ∀ d ∈ tables_1, d.before a0 Z = true) (ws : List Jvm.Cond) (q0 : Addr) (k0 : ClassId) (cq : Int32) (x0 : Int32) (x1 : Int32) (x2 : Int32) (x3 : Int32) (x4 : Int32) (x5 : Int32) (Ba : Int32) (Aa : Value) (h0 : Heap) (n0 : Nat) (O0 : Old Z n0 h0) (hE : EV Z Ba Aa) (P0 : Arv Z h0 q0 k0 .byte (6 : Int32) [(.int x0), (.int x1), (.int x2), (.int x3), (.int x4), (.int x5)] (.int 0)) (g_q0 : n0 ≤ q0) :
    MetFree l Gi (head1 (Jvm.Cond.code Gi jdk_52_method_4_code 3 none :: ws) ({ frames := 0, cells := 0, slots := 0, locals := 0 } : Room)) (fun a U => a = #[(.ref q0), (.int 2), (.int cq)] ∧ Z.Warmed39 U.vm ∧ U.heap = h0) (fun _ _ _ _ _ => True) (fun _ U o U' => ∃ v L, o = .returned v ∧ Br Z q0 k0 cq x0 x1 x2 x3 x4 x5 Ba Aa h0 n0 v U'.heap L ∧ FrameEnd U o U' L ({ frames := 0, cells := 0, slots := 0, locals := 0 } : Room).cells ({ frames := 0, cells := 0, slots := 0, locals := 0 } : Room).slots) := by
  refine MetFree.of_bodySF (plainFor_of_name Pa) hisR ?_
  intro p e s m args below meth c s₁ Bd hml0 hP hK
  obtain ⟨rfl, hZ, hh⟩ := hP
  have hx := Bd.exec
  have hby := Bd.bytes
  have hml : c.maxLocals = 3 := hml0
  have hown : s.vm.findClass "java/lang/StringUTF16" = some m.cls := findClass_of_methodNamed Bd.named
  have hnm := (name_of_methodNamed Bd.named Bd.method).1
  have X00 : Stand p l e ({ frames := 0, cells := 0, slots := 0, locals := 0 } : Room) s m #[(.ref q0), (.int 2), (.int cq)] below meth c s₁ [] 0 0 := Stand.of_body Bd
  have e00 : s₁.heap = h0 := by rw [← hh, Bd.state]; rfl
  have N00 := Fr.nil n0
  refine Classical.byContradiction fun hNG => ?_
  have K00 := Keep.refl h0 [q0]
  have k00 : ∀ t, Ga p e below m s₁ 0 #[.val (.ref q0), .val (.int 2), .val (.int cq)] [] t → Ra p e below m s₁ #[(.ref q0), (.int 2), (.int cq)] 3 t := fun t k => castTop (Lu m q0 ((2 : Int32)) cq ) k
  obtain ⟨Ua, La, Va, Ma, Ha, Ia, Ka⟩ := (id hE : EV Z Ba Aa)
  obtain ⟨T10, X10, e10, st10⟩ := getS2 X00 hx hZ hown (host := "") (Or.inl (Da hw 60 rfl)) Via.refl e00 (Ha.ext O0.2) (g := (mkF m 0 #[.val (.ref q0), .val (.int 2), .val (.int cq)] [])) rfl (hb hby Rg)
  obtain ⟨T11, X11, e11, st11⟩ := getS2 X10 hx hZ hown (host := "") (Or.inl (Da hw 61 rfl)) Via.refl e10 (Ia.ext O0.2) (g := (mkF m 38 #[.val (.ref q0), .val (.int 5), .val (.int cq)] [(.int cq), (.int 4), (.ref q0)])) rfl (hb hby Le)
  obtain ⟨cl12, Ar12, q12, Sz12, Nn12, Hs12, Gf12⟩ := id P0
  have hin13 : ¬ ((4 : Int32) < 0 ∨ cl12.slots.size ≤ ((4 : Int32)).toNatClampNeg) := inb_of Sz12 ⟨by decide, by decide⟩
  obtain ⟨T14, h14, X14, e14, W14, st14⟩ := stB X11 hx hZ e11 Ar12 (j := (4 : Int32)) hin13 (g := (mkF m 43 #[.val (.ref q0), .val (.int 5), .val (.int cq)] [(.int ((cq >>> ((0 : Int32) &&& 31)).toInt8.toInt32)), (.int 4), (.ref q0)])) rfl rfl (hb hby Re)
  have V14 : Arv Z h14 q0 k0 .byte (6 : Int32) [(.int x0), (.int x1), (.int x2), (.int x3), (.int ((cq >>> ((0 : Int32) &&& 31)).toInt8.toInt32)), (.int x5)] (.int 0) := by
    have q := Arv.set Ar12 q12 Sz12 Nn12 Hs12 Gf12 (fits_nar_byte _) W14 4 rfl (Nat.le_of_ble_eq_true rfl)
    first | exact q | (simp only [Yi, Di] at q; exact q)
  have N14 := Fr.snoc X14 N00 g_q0
  have O14 := O0.wr W14 g_q0
  have K14 := K00.wr W14 (Or.inl (List.mem_of_getElem? (i := 0) rfl))
  obtain ⟨T15, X15, e15, st15⟩ := getS2 X14 hx hZ hown (host := "") (Or.inl (Da hw 62 rfl)) Via.refl e14 (Ka.ext O14.2) (g := (mkF m 47 #[.val (.ref q0), .val (.int 5), .val (.int cq)] [(.int cq), (.int 5), (.ref q0)])) rfl (hb hby Ye)
  obtain ⟨cl16, Ar16, q16, Sz16, Nn16, Hs16, Gf16⟩ := id V14
  have hin17 : ¬ ((5 : Int32) < 0 ∨ cl16.slots.size ≤ ((5 : Int32)).toNatClampNeg) := inb_of Sz16 ⟨by decide, by decide⟩
  obtain ⟨T18, h18, X18, e18, W18, st18⟩ := stB X15 hx hZ e15 Ar16 (j := (5 : Int32)) hin17 (g := (mkF m 52 #[.val (.ref q0), .val (.int 5), .val (.int cq)] [(.int ((cq >>> ((8 : Int32) &&& 31)).toInt8.toInt32)), (.int 5), (.ref q0)])) rfl rfl (hb hby Bf)
  have V18 : Arv Z h18 q0 k0 .byte (6 : Int32) [(.int x0), (.int x1), (.int x2), (.int x3), (.int ((cq >>> ((0 : Int32) &&& 31)).toInt8.toInt32)), (.int ((cq >>> ((8 : Int32) &&& 31)).toInt8.toInt32))] (.int 0) := by
    have q := Arv.set Ar16 q16 Sz16 Nn16 Hs16 Gf16 (fits_nar_byte _) W18 5 rfl (Nat.le_of_ble_eq_true rfl)
    first | exact q | (simp only [Yi, Di] at q; exact q)
  have N18 := Fr.snoc X18 N14 g_q0
  have O18 := O14.wr W18 g_q0
  have K18 := K14.wr W18 (Or.inl (List.mem_of_getElem? (i := 0) rfl))
  have k19 : ∀ t, Ga p e below m T18 53 #[.val (.ref q0), .val (.int 5), .val (.int cq)] [] t → Ra p e below m s₁ #[(.ref q0), (.int 2), (.int cq)] 3 t := by
    intro t k
    refine k00 t ?_
    refine st10 _ ?_
    refine XS.ifYes X10.here hx rfl (pc0 := 3) (pc' := 28) rfl (hb hby Ug) rfl ((if0 _ _).trans (feq (by decide : ¬ ((1 : Int32) = (0 : Int32)))).2) (by decide) (by decide) ?_
    refine XS.iloadN X10.here hx rfl (hb hby Zd) rfl ?_
    refine XS.iconst X10.here hx rfl (hb hby Ae) ?_
    refine XS.ishl X10.here hx rfl (hb hby Be) rfl ?_
    show Ga p e below m T10 31 #[.val (.ref q0), .val (.int 2), .val (.int cq)] [(.int ((2 : Int32) <<< ((1 : Int32) &&& 31)))] t
    rw [show ((2 : Int32) <<< ((1 : Int32) &&& 31)) = (4 : Int32) from by decide]
    refine XS.istoreN X10.here hx rfl (hb hby De) rfl (l' := #[.val (.ref q0), .val (.int 4), .val (.int cq)]) rfl ?_
    refine XS.aloadN X10.here hx rfl (hb hby Ge) rfl rfl ?_
    show Ga p e below m T10 33 #[.val (.ref q0), .val (.int 4), .val (.int cq)] [(.ref q0)] t
    refine XS.iloadN X10.here hx rfl (hb hby He) rfl ?_
    refine XS.iinc X10.here hx rfl (hb hby Ie) rfl (l' := #[.val (.ref q0), .val (.int ((4 : Int32) + (1 : Int32))), .val (.int cq)]) rfl ?_
    show Ga p e below m T10 37 #[.val (.ref q0), .val (.int ((4 : Int32) + (1 : Int32))), .val (.int cq)] [(.int 4), (.ref q0)] t
    rw [show ((4 : Int32) + (1 : Int32)) = (5 : Int32) from by decide]
    refine XS.iloadN X10.here hx rfl (hb hby Ke) rfl ?_
    refine st11 _ ?_
    refine XS.ishr X11.here hx rfl (hb hby Me) rfl ?_
    refine XS.i2b X11.here hx rfl (hb hby Pe) rfl ?_
    refine st14 _ ?_
    show Ga p e below m T14 44 #[.val (.ref q0), .val (.int 5), .val (.int cq)] [] t
    refine XS.aloadN X14.here hx rfl (hb hby Ue) rfl rfl ?_
    refine XS.iloadN X14.here hx rfl (hb hby Ve) rfl ?_
    refine XS.iloadN X14.here hx rfl (hb hby We) rfl ?_
    refine st15 _ ?_
    refine XS.ishr X15.here hx rfl (hb hby Ze) rfl ?_
    refine XS.i2b X15.here hx rfl (hb hby Af) rfl ?_
    refine st18 _ ?_
    exact k
  obtain ⟨fs, hr, hrun, hended, hW, hsame⟩ := X18.leave (v := none) (fun _ => rfl)
  refine hNG ⟨_, _, k19 _ ?_, hrun, hended, _, _, rfl, ?_, ⟨_, rfl⟩, hW, hsame.mono (by decide) (by decide)⟩
  · exact X18.returnOut hx Bd.returns (hb hby Df) hr
  · show Br Z q0 k0 cq x0 x1 x2 x3 x4 x5 Ba Aa h0 n0 _ T18.heap _
    rw [e18]
    exact ⟨rfl, N18, O18, K18, V18⟩
theorem Gy (m : MethodId) (x0 : Addr) (x1 : Int32) (x2 : Int32)  : entryFrame m #[(.ref x0), (.int x1), (.int x2)] 5 = mkF m 0 #[.val (.ref x0), .val (.int x1), .val (.int x2), .unset, .unset] [] := by first | (simp [entryFrame, mkF, argsToLocals, Value.category]; done) | rfl
def Ms (Z : State) (t0 : Addr) (k0 : ClassId) (c0 : Int32) (c1 : Int32) (c2 : Int32) (Ba : Int32) (Aa : Value) (h0 : Heap) (n0 : Nat) (v : Option Value) (h : Heap) (L : List Loc) : Prop := ∃ (b : Addr) (k : ClassId), v = some (.ref b) ∧ Fr n0 L ∧ Old Z n0 h ∧ Keep h0 h [] ∧ n0 ≤ b ∧ h0.size ≤ b ∧ Arv Z h b k .byte (6 : Int32) [(.int ((c0 >>> ((0 : Int32) &&& 31)).toInt8.toInt32)), (.int ((c0 >>> ((8 : Int32) &&& 31)).toInt8.toInt32)), (.int ((c1 >>> ((0 : Int32) &&& 31)).toInt8.toInt32)), (.int ((c1 >>> ((8 : Int32) &&& 31)).toInt8.toInt32)), (.int ((c2 >>> ((0 : Int32) &&& 31)).toInt8.toInt32)), (.int ((c2 >>> ((8 : Int32) &&& 31)).toInt8.toInt32))] (.int 0)
set_option maxRecDepth 65536 in
set_option maxHeartbeats 40000000 in
theorem Rp (l : Launch) (Z : State) (a0 : Array Value) (hw : ∀ d ∈ tables_1, d.before a0 Z = true) (ws : List Jvm.Cond) (t0 : Addr) (k0 : ClassId) (c0 : Int32) (c1 : Int32) (c2 : Int32) (Ba : Int32) (Aa : Value) (h0 : Heap) (n0 : Nat) (O0 : Old Z n0 h0) (hE : EV Z Ba Aa) (P0 : Arv Z h0 t0 k0 .char (3 : Int32) [(.int c0), (.int c1), (.int c2)] (.int 0)) :
    MetFree l Am (head1 (Jvm.Cond.code Am jdk_52_method_14_code 5 (some (.array .byte)) :: ws) ({ frames := 2, cells := 1, slots := 6, locals := 24 } : Room)) (fun a U => a = #[(.ref t0), (.int 0), (.int 3)] ∧ Z.Warmed39 U.vm ∧ U.heap = h0) (fun _ _ _ _ _ => True) (fun _ U o U' => ∃ v L, o = .returned v ∧ Ms Z t0 k0 c0 c1 c2 Ba Aa h0 n0 v U'.heap L ∧ FrameEnd U o U' L ({ frames := 2, cells := 1, slots := 6, locals := 24 } : Room).cells ({ frames := 2, cells := 1, slots := 6, locals := 24 } : Room).slots) := by
  refine MetFree.of_bodySF (plainFor_of_name Pa) hisR ?_
  intro p e s m args below meth c s₁ Bd hml0 hP hK
  obtain ⟨rfl, hZ, hh⟩ := hP
  have hx := Bd.exec
  have hby := Bd.bytes
  have hml : c.maxLocals = 5 := hml0
  have hown : s.vm.findClass "java/lang/StringUTF16" = some m.cls := findClass_of_methodNamed Bd.named
  have hnm := (name_of_methodNamed Bd.named Bd.method).1
  have X00 : Stand p l e ({ frames := 2, cells := 1, slots := 6, locals := 24 } : Room) s m #[(.ref t0), (.int 0), (.int 3)] below meth c s₁ [] 0 0 := Stand.of_body Bd
  have e00 : s₁.heap = h0 := by rw [← hh, Bd.state]; rfl
  have N00 := Fr.nil n0
  refine Classical.byContradiction fun hNG => ?_
  have K00 := Keep.refl h0 []
  have k00 : ∀ t, Ga p e below m s₁ 0 #[.val (.ref t0), .val (.int 0), .val (.int 3), .unset, .unset] [] t → Ra p e below m s₁ #[(.ref t0), (.int 0), (.int 3)] 5 t := fun t k => castTop (Gy m t0 ((0 : Int32)) ((3 : Int32)) ) k
  obtain ⟨Ua, La, Va, Ma, Ha, Ia, Ka⟩ := (id hE : EV Z Ba Aa)
  obtain ⟨_, _, ⟨T10, L10, k10, n10⟩, -, X10, ⟨Lc10, hQ10, l10, y10, z10⟩, st10⟩ := Jvm.LawKit.callS X00 hx (y := Pm) hown (mvT hZ (Da hw 50 rfl)) (mvT hZ (Da hw 51 rfl)) (mvT hZ (Da hw 18 rfl)) (mvT hZ (Da hw 52 rfl)) (by decide) (backOf (W := 0) (Dy l Z a0 hw []  _ _ h0 n0 O0 hE  ) hZ (Da hw 52 rfl) (Da hw 18 rfl) (by decide) (by decide)) (g := (mkF m 1 #[.val (.ref t0), .val (.int 0), .val (.int 3), .unset, .unset] [(.int 3)])) rfl (by rw [hml]; rfl) (argsL := [(.int 3)]) (rest := []) (lenOf Zo rfl) rfl (by show 2 * 0 + _ ≤ _; exact Nat.le_of_eq rfl) (hb hby Hk) (fun _ _ => ⟨rfl, e00, (by decide : 0 + 1 ≤ _), (by decide : 0 + 6 ≤ _)⟩)
  dsimp only [Pt.U, Pt.locs, Pt.cells, Pt.slots] at X10 l10 y10 z10 st10 hQ10
  subst l10 y10 z10
  obtain ⟨b10, k10, rfl, N10q, O10, Kc10, g_b10, gs_b10, F10_0⟩ := hQ10
  have N10 := Fr.app N00 N10q
  have K10 := K00.trans Kc10 (fun x hx => nomatch hx)
  have s_b10 := Nat.le_trans K00.1 gs_b10
  have lt_b10 := F10_0.lt
  have f11 := (P0.keep Kc10 List.not_mem_nil)
  obtain ⟨cl12, Ar12, q12, Sz12, Nn12, Hs12, Gf12⟩ := id f11
  have hin13 : ¬ ((0 : Int32) < 0 ∨ cl12.slots.size ≤ ((0 : Int32)).toNatClampNeg) := inb_of Sz12 ⟨by decide, by decide⟩
  have hat14 : cl12.slots[((0 : Int32)).toNatClampNeg]? = some (.int c0) := Hs12.at hin13 rfl
  obtain ⟨_, _, ⟨T15, L15, k15, n15⟩, -, X15, ⟨Lc15, hQ15, l15, y15, z15⟩, st15⟩ := Jvm.LawKit.callS X10 hx (y := Gi) hown (mvT hZ (Da hw 57 rfl)) (mvT hZ (Da hw 58 rfl)) (mvT hZ (Da hw 18 rfl)) (mvT hZ (Da hw 59 rfl)) (by decide) (backOf (W := 0) (Hu l Z a0 hw [] b10 k10 c0 (0 : Int32) (0 : Int32) (0 : Int32) (0 : Int32) (0 : Int32) (0 : Int32) _ _ T10.heap n0 O10 hE F10_0 g_b10 ) hZ (Da hw 59 rfl) (Da hw 18 rfl) (by decide) (by decide)) (g := (mkF m 20 #[.val (.ref t0), .val (.int 0), .val (.int 3), .val (.ref b10), .val (.int 0)] [(.int c0), (.int 0), (.ref b10)])) rfl (by rw [hml]; rfl) (argsL := [(.ref b10), (.int 0), (.int c0)]) (rest := []) (lenOf Bm rfl) rfl (by show 2 * 0 + _ ≤ _; exact Nat.le_of_eq rfl) (hb hby Yc) (fun _ _ => ⟨rfl, rfl, (by decide : 1 + 0 ≤ _), (by decide : 6 + 0 ≤ _)⟩)
  dsimp only [Pt.U, Pt.locs, Pt.cells, Pt.slots] at X15 l15 y15 z15 st15 hQ15
  subst l15 y15 z15
  obtain ⟨rfl, N15q, O15, Kc15, F15_0⟩ := hQ15
  have N15 := Fr.app N10 N15q
  have K15 := K10.trans Kc15 (allS (Or.inr s_b10) all0)
  have ne16 : ¬ (t0 = b10) := (Nat.ne_of_lt (Nat.lt_of_lt_of_le P0.lt gs_b10))
  have f17 := (f11.keep Kc15 (fun q => ne16 (List.mem_singleton.mp q)))
  obtain ⟨cl18, Ar18, q18, Sz18, Nn18, Hs18, Gf18⟩ := id f17
  have hin19 : ¬ ((1 : Int32) < 0 ∨ cl18.slots.size ≤ ((1 : Int32)).toNatClampNeg) := inb_of Sz18 ⟨by decide, by decide⟩
  have hat20 : cl18.slots[((1 : Int32)).toNatClampNeg]? = some (.int c1) := Hs18.at hin19 rfl
  obtain ⟨_, _, ⟨T21, L21, k21, n21⟩, -, X21, ⟨Lc21, hQ21, l21, y21, z21⟩, st21⟩ := Jvm.LawKit.callS X15 hx (y := Gi) hown (mvT hZ (Da hw 57 rfl)) (mvT hZ (Da hw 58 rfl)) (mvT hZ (Da hw 18 rfl)) (mvT hZ (Da hw 59 rfl)) (by decide) (backOf (W := 0) (Ku l Z a0 hw [] b10 k10 c1 ((c0 >>> ((0 : Int32) &&& 31)).toInt8.toInt32) ((c0 >>> ((8 : Int32) &&& 31)).toInt8.toInt32) (0 : Int32) (0 : Int32) (0 : Int32) (0 : Int32) _ _ T15.heap n0 O15 hE F15_0 g_b10 ) hZ (Da hw 59 rfl) (Da hw 18 rfl) (by decide) (by decide)) (g := (mkF m 20 #[.val (.ref t0), .val (.int 1), .val (.int 3), .val (.ref b10), .val (.int 1)] [(.int c1), (.int 1), (.ref b10)])) rfl (by rw [hml]; rfl) (argsL := [(.ref b10), (.int 1), (.int c1)]) (rest := []) (lenOf Bm rfl) rfl (by show 2 * 0 + _ ≤ _; exact Nat.le_of_eq rfl) (hb hby Yc) (fun _ _ => ⟨rfl, rfl, (by decide : 1 + 0 ≤ _), (by decide : 6 + 0 ≤ _)⟩)
  dsimp only [Pt.U, Pt.locs, Pt.cells, Pt.slots] at X21 l21 y21 z21 st21 hQ21
  subst l21 y21 z21
  obtain ⟨rfl, N21q, O21, Kc21, F21_0⟩ := hQ21
  have N21 := Fr.app N15 N21q
  have K21 := K15.trans Kc21 (allS (Or.inr s_b10) all0)
  have f22 := (f17.keep Kc21 (fun q => ne16 (List.mem_singleton.mp q)))
  obtain ⟨cl23, Ar23, q23, Sz23, Nn23, Hs23, Gf23⟩ := id f22
  have hin24 : ¬ ((2 : Int32) < 0 ∨ cl23.slots.size ≤ ((2 : Int32)).toNatClampNeg) := inb_of Sz23 ⟨by decide, by decide⟩
  have hat25 : cl23.slots[((2 : Int32)).toNatClampNeg]? = some (.int c2) := Hs23.at hin24 rfl
  obtain ⟨_, _, ⟨T26, L26, k26, n26⟩, -, X26, ⟨Lc26, hQ26, l26, y26, z26⟩, st26⟩ := Jvm.LawKit.callS X21 hx (y := Gi) hown (mvT hZ (Da hw 57 rfl)) (mvT hZ (Da hw 58 rfl)) (mvT hZ (Da hw 18 rfl)) (mvT hZ (Da hw 59 rfl)) (by decide) (backOf (W := 0) (Mu l Z a0 hw [] b10 k10 c2 ((c0 >>> ((0 : Int32) &&& 31)).toInt8.toInt32) ((c0 >>> ((8 : Int32) &&& 31)).toInt8.toInt32) ((c1 >>> ((0 : Int32) &&& 31)).toInt8.toInt32) ((c1 >>> ((8 : Int32) &&& 31)).toInt8.toInt32) (0 : Int32) (0 : Int32) _ _ T21.heap n0 O21 hE F21_0 g_b10 ) hZ (Da hw 59 rfl) (Da hw 18 rfl) (by decide) (by decide)) (g := (mkF m 20 #[.val (.ref t0), .val (.int 2), .val (.int 3), .val (.ref b10), .val (.int 2)] [(.int c2), (.int 2), (.ref b10)])) rfl (by rw [hml]; rfl) (argsL := [(.ref b10), (.int 2), (.int c2)]) (rest := []) (lenOf Bm rfl) rfl (by show 2 * 0 + _ ≤ _; exact Nat.le_of_eq rfl) (hb hby Yc) (fun _ _ => ⟨rfl, rfl, (by decide : 1 + 0 ≤ _), (by decide : 6 + 0 ≤ _)⟩)
  dsimp only [Pt.U, Pt.locs, Pt.cells, Pt.slots] at X26 l26 y26 z26 st26 hQ26
  subst l26 y26 z26
  obtain ⟨rfl, N26q, O26, Kc26, F26_0⟩ := hQ26
  have N26 := Fr.app N21 N26q
  have K26 := K21.trans Kc26 (allS (Or.inr s_b10) all0)
  have k27 : ∀ t, Ga p e below m T26 33 #[.val (.ref t0), .val (.int 3), .val (.int 3), .val (.ref b10), .val (.int 3)] [(.ref b10)] t → Ra p e below m s₁ #[(.ref t0), (.int 0), (.int 3)] 5 t := by
    intro t k
    refine k00 t ?_
    refine XS.iloadN X00.here hx rfl (hb hby Gk) rfl ?_
    refine st10 _ ?_
    refine XS.astoreN X10.here hx rfl (hb hby Ik) rfl rfl (l' := #[.val (.ref t0), .val (.int 0), .val (.int 3), .val (.ref b10), .unset]) rfl ?_
    refine XS.iconst X10.here hx rfl (hb hby Kk) ?_
    refine XS.istore X10.here hx rfl (hb hby Lk) rfl (l' := #[.val (.ref t0), .val (.int 0), .val (.int 3), .val (.ref b10), .val (.int 0)]) rfl ?_
    refine XS.iload X10.here hx rfl (hb hby Lb) rfl ?_
    refine XS.iloadN X10.here hx rfl (hb hby Ya) rfl ?_
    refine XS.icmpNo X10.here hx rfl (hb hby Za) rfl (tlt (by decide : (0 : Int32) < (3 : Int32))).2.1 ?_
    show Ga p e below m T10 14 #[.val (.ref t0), .val (.int 0), .val (.int 3), .val (.ref b10), .val (.int 0)] [] t
    refine XS.aloadN X10.here hx rfl (hb hby Pc) rfl rfl ?_
    refine XS.iload X10.here hx rfl (hb hby Rc) rfl ?_
    refine XS.aloadN X10.here hx rfl (hb hby Uc) rfl rfl ?_
    refine XS.iloadN X10.here hx rfl (hb hby Vc) rfl ?_
    refine X10.caload hx (j := (0 : Int32)) (v := (.int c0)) (by exact Ar12.1) (State.isArrayOf_alike hZ.alike Ar12.2.1) Ar12.2.2 hin13 hat14 (g := (mkF m 19 #[.val (.ref t0), .val (.int 0), .val (.int 3), .val (.ref b10), .val (.int 0)] [(.int 0), (.ref t0), (.int 0), (.ref b10)])) rfl rfl (hb hby Wc) _ ?_
    refine st15 _ ?_
    refine XS.iinc X15.here hx rfl (hb hby Zc) rfl (l' := #[.val (.ref t0), .val (.int ((0 : Int32) + (1 : Int32))), .val (.int 3), .val (.ref b10), .val (.int 0)]) rfl ?_
    show Ga p e below m T15 26 #[.val (.ref t0), .val (.int ((0 : Int32) + (1 : Int32))), .val (.int 3), .val (.ref b10), .val (.int 0)] [] t
    rw [show ((0 : Int32) + (1 : Int32)) = (1 : Int32) from by decide]
    show Ga p e below m T15 26 #[.val (.ref t0), .val (.int 1), .val (.int 3), .val (.ref b10), .val (.int 0)] [] t
    refine XS.iinc X15.here hx rfl (hb hby Ad) rfl (l' := #[.val (.ref t0), .val (.int 1), .val (.int 3), .val (.ref b10), .val (.int ((0 : Int32) + (1 : Int32)))]) rfl ?_
    show Ga p e below m T15 29 #[.val (.ref t0), .val (.int 1), .val (.int 3), .val (.ref b10), .val (.int ((0 : Int32) + (1 : Int32)))] [] t
    rw [show ((0 : Int32) + (1 : Int32)) = (1 : Int32) from by decide]
    refine XS.goto X15.here hx rfl (pc0 := 29) (pc' := 8) rfl (hb hby Dd) (by decide) (by decide) ?_
    refine XS.iload X15.here hx rfl (hb hby Lb) rfl ?_
    refine XS.iloadN X15.here hx rfl (hb hby Ya) rfl ?_
    refine XS.icmpNo X15.here hx rfl (hb hby Za) rfl (tlt (by decide : (1 : Int32) < (3 : Int32))).2.1 ?_
    refine XS.aloadN X15.here hx rfl (hb hby Pc) rfl rfl ?_
    refine XS.iload X15.here hx rfl (hb hby Rc) rfl ?_
    show Ga p e below m T15 17 #[.val (.ref t0), .val (.int 1), .val (.int 3), .val (.ref b10), .val (.int 1)] [(.int 1), (.ref b10)] t
    refine XS.aloadN X15.here hx rfl (hb hby Uc) rfl rfl ?_
    refine XS.iloadN X15.here hx rfl (hb hby Vc) rfl ?_
    refine X15.caload hx (j := (1 : Int32)) (v := (.int c1)) (by exact Ar18.1) (State.isArrayOf_alike hZ.alike Ar18.2.1) Ar18.2.2 hin19 hat20 (g := (mkF m 19 #[.val (.ref t0), .val (.int 1), .val (.int 3), .val (.ref b10), .val (.int 1)] [(.int 1), (.ref t0), (.int 1), (.ref b10)])) rfl rfl (hb hby Wc) _ ?_
    refine st21 _ ?_
    refine XS.iinc X21.here hx rfl (hb hby Zc) rfl (l' := #[.val (.ref t0), .val (.int ((1 : Int32) + (1 : Int32))), .val (.int 3), .val (.ref b10), .val (.int 1)]) rfl ?_
    show Ga p e below m T21 26 #[.val (.ref t0), .val (.int ((1 : Int32) + (1 : Int32))), .val (.int 3), .val (.ref b10), .val (.int 1)] [] t
    rw [show ((1 : Int32) + (1 : Int32)) = (2 : Int32) from by decide]
    refine XS.iinc X21.here hx rfl (hb hby Ad) rfl (l' := #[.val (.ref t0), .val (.int 2), .val (.int 3), .val (.ref b10), .val (.int ((1 : Int32) + (1 : Int32)))]) rfl ?_
    show Ga p e below m T21 29 #[.val (.ref t0), .val (.int 2), .val (.int 3), .val (.ref b10), .val (.int ((1 : Int32) + (1 : Int32)))] [] t
    rw [show ((1 : Int32) + (1 : Int32)) = (2 : Int32) from by decide]
    show Ga p e below m T21 29 #[.val (.ref t0), .val (.int 2), .val (.int 3), .val (.ref b10), .val (.int 2)] [] t
    refine XS.goto X21.here hx rfl (pc0 := 29) (pc' := 8) rfl (hb hby Dd) (by decide) (by decide) ?_
    refine XS.iload X21.here hx rfl (hb hby Lb) rfl ?_
    refine XS.iloadN X21.here hx rfl (hb hby Ya) rfl ?_
    refine XS.icmpNo X21.here hx rfl (hb hby Za) rfl (tlt (by decide : (2 : Int32) < (3 : Int32))).2.1 ?_
    refine XS.aloadN X21.here hx rfl (hb hby Pc) rfl rfl ?_
    refine XS.iload X21.here hx rfl (hb hby Rc) rfl ?_
    refine XS.aloadN X21.here hx rfl (hb hby Uc) rfl rfl ?_
    refine XS.iloadN X21.here hx rfl (hb hby Vc) rfl ?_
    show Ga p e below m T21 19 #[.val (.ref t0), .val (.int 2), .val (.int 3), .val (.ref b10), .val (.int 2)] [(.int 2), (.ref t0), (.int 2), (.ref b10)] t
    refine X21.caload hx (j := (2 : Int32)) (v := (.int c2)) (by exact Ar23.1) (State.isArrayOf_alike hZ.alike Ar23.2.1) Ar23.2.2 hin24 hat25 (g := (mkF m 19 #[.val (.ref t0), .val (.int 2), .val (.int 3), .val (.ref b10), .val (.int 2)] [(.int 2), (.ref t0), (.int 2), (.ref b10)])) rfl rfl (hb hby Wc) _ ?_
    refine st26 _ ?_
    refine XS.iinc X26.here hx rfl (hb hby Zc) rfl (l' := #[.val (.ref t0), .val (.int ((2 : Int32) + (1 : Int32))), .val (.int 3), .val (.ref b10), .val (.int 2)]) rfl ?_
    show Ga p e below m T26 26 #[.val (.ref t0), .val (.int ((2 : Int32) + (1 : Int32))), .val (.int 3), .val (.ref b10), .val (.int 2)] [] t
    rw [show ((2 : Int32) + (1 : Int32)) = (3 : Int32) from by decide]
    refine XS.iinc X26.here hx rfl (hb hby Ad) rfl (l' := #[.val (.ref t0), .val (.int 3), .val (.int 3), .val (.ref b10), .val (.int ((2 : Int32) + (1 : Int32)))]) rfl ?_
    show Ga p e below m T26 29 #[.val (.ref t0), .val (.int 3), .val (.int 3), .val (.ref b10), .val (.int ((2 : Int32) + (1 : Int32)))] [] t
    rw [show ((2 : Int32) + (1 : Int32)) = (3 : Int32) from by decide]
    refine XS.goto X26.here hx rfl (pc0 := 29) (pc' := 8) rfl (hb hby Dd) (by decide) (by decide) ?_
    refine XS.iload X26.here hx rfl (hb hby Lb) rfl ?_
    show Ga p e below m T26 10 #[.val (.ref t0), .val (.int 3), .val (.int 3), .val (.ref b10), .val (.int 3)] [(.int 3)] t
    refine XS.iloadN X26.here hx rfl (hb hby Ya) rfl ?_
    refine XS.icmpYes X26.here hx rfl (pc0 := 11) (pc' := 32) rfl (hb hby Za) rfl (flt (by decide : ¬ ((3 : Int32) < (3 : Int32)))).2.1 (by decide) (by decide) ?_
    refine XS.aloadN X26.here hx rfl (hb hby Bj) rfl rfl ?_
    exact k
  obtain ⟨fs, hr, hrun, hended, hW, hsame⟩ := X26.leave (v := some (.ref b10)) (fun h => by rw [Bd.returns] at h; cases h)
  refine hNG ⟨_, _, k27 _ ?_, hrun, hended, _, _, rfl, ?_, ⟨_, rfl⟩, hW, hsame.mono (by decide) (by decide)⟩
  · exact retOut X26 hx (t := (.array .byte)) Bd.returns rfl (Or.inr (Or.inr (Or.inr (Or.inr ⟨rfl, rfl, rfl⟩)))) (hb hby Dj) hr
  · show Ms Z t0 k0 c0 c1 c2 Ba Aa h0 n0 _ T26.heap _
    exact ⟨b10, k10, rfl, N26, O26, K26, g_b10, s_b10, F26_0⟩
theorem Pu (m : MethodId) (x0 : Addr) (x1 : Int32)  : entryFrame m #[(.ref x0), (.int x1)] 2 = mkF m 0 #[.val (.ref x0), .val (.int x1)] [] := by first | (simp [entryFrame, mkF, argsToLocals, Value.category]; done) | rfl
def Dr (Z : State) (q0 : Addr) (k0 : ClassId) (x0 : Int32) (x1 : Int32) (x2 : Int32) (x3 : Int32) (x4 : Int32) (x5 : Int32) (Ba : Int32) (Aa : Value) (h0 : Heap) (n0 : Nat) (v : Option Value) (h : Heap) (L : List Loc) : Prop := v = some (.int ((((x0 &&& (255 : Int32)) <<< ((0 : Int32) &&& 31)) ||| ((x1 &&& (255 : Int32)) <<< ((8 : Int32) &&& 31))).toUInt32.toUInt16.toUInt32.toInt32)) ∧ Fr n0 L ∧ h = h0
set_option maxRecDepth 65536 in
set_option maxHeartbeats 40000000 in
theorem Ru (l : Launch) (Z : State) (a0 : Array Value) (hw : ∀ d ∈ tables_1, d.before a0 Z = true) (ws : List Jvm.Cond) (q0 : Addr) (k0 : ClassId) (x0 : Int32) (x1 : Int32) (x2 : Int32) (x3 : Int32) (x4 : Int32) (x5 : Int32) (Ba : Int32) (Aa : Value) (h0 : Heap) (n0 : Nat) (O0 : Old Z n0 h0) (hE : EV Z Ba Aa) (P0 : Arv Z h0 q0 k0 .byte (6 : Int32) [(.int x0), (.int x1), (.int x2), (.int x3), (.int x4), (.int x5)] (.int 0)) :
    MetFree l Hi (head1 (Jvm.Cond.code Hi jdk_52_method_5_code 2 (some .char) :: ws) ({ frames := 0, cells := 0, slots := 0, locals := 0 } : Room)) (fun a U => a = #[(.ref q0), (.int 0)] ∧ Z.Warmed39 U.vm ∧ U.heap = h0) (fun _ _ _ _ _ => True) (fun _ U o U' => ∃ v L, o = .returned v ∧ Dr Z q0 k0 x0 x1 x2 x3 x4 x5 Ba Aa h0 n0 v U'.heap L ∧ FrameEnd U o U' L ({ frames := 0, cells := 0, slots := 0, locals := 0 } : Room).cells ({ frames := 0, cells := 0, slots := 0, locals := 0 } : Room).slots) := by
  refine MetFree.of_bodySF (plainFor_of_name Pa) hisR ?_
  intro p e s m args below meth c s₁ Bd hml0 hP hK
  obtain ⟨rfl, hZ, hh⟩ := hP
  have hx := Bd.exec
  have hby := Bd.bytes
  have hml : c.maxLocals = 2 := hml0
  have hown : s.vm.findClass "java/lang/StringUTF16" = some m.cls := findClass_of_methodNamed Bd.named
  have hnm := (name_of_methodNamed Bd.named Bd.method).1
  have X00 : Stand p l e ({ frames := 0, cells := 0, slots := 0, locals := 0 } : Room) s m #[(.ref q0), (.int 0)] below meth c s₁ [] 0 0 := Stand.of_body Bd
  have e00 : s₁.heap = h0 := by rw [← hh, Bd.state]; rfl
  have N00 := Fr.nil n0
  refine Classical.byContradiction fun hNG => ?_
  have K00 := Keep.refl h0 []
  have k00 : ∀ t, Ga p e below m s₁ 0 #[.val (.ref q0), .val (.int 0)] [] t → Ra p e below m s₁ #[(.ref q0), (.int 0)] 2 t := fun t k => castTop (Pu m q0 ((0 : Int32)) ) k
  obtain ⟨Ua, La, Va, Ma, Ha, Ia, Ka⟩ := (id hE : EV Z Ba Aa)
  obtain ⟨T10, X10, e10, st10⟩ := getS2 X00 hx hZ hown (host := "") (Or.inl (Da hw 60 rfl)) Via.refl e00 (Ha.ext O0.2) (g := (mkF m 0 #[.val (.ref q0), .val (.int 0)] [])) rfl (hb hby Vg)
  obtain ⟨cl11, Ar11, q11, Sz11, Nn11, Hs11, Gf11⟩ := id P0
  have hin12 : ¬ ((0 : Int32) < 0 ∨ cl11.slots.size ≤ ((0 : Int32)).toNatClampNeg) := inb_of Sz11 ⟨by decide, by decide⟩
  have hat13 : cl11.slots[((0 : Int32)).toNatClampNeg]? = some (.int x0) := Hs11.at hin12 rfl
  obtain ⟨T14, X14, e14, st14⟩ := getS2 X10 hx hZ hown (host := "") (Or.inl (Da hw 61 rfl)) Via.refl e10 (Ia.ext O0.2) (g := (mkF m 42 #[.val (.ref q0), .val (.int 1)] [(.int (x0 &&& (255 : Int32)))])) rfl (hb hby Yf)
  obtain ⟨cl15, Ar15, q15, Sz15, Nn15, Hs15, Gf15⟩ := id P0
  have hin16 : ¬ ((1 : Int32) < 0 ∨ cl15.slots.size ≤ ((1 : Int32)).toNatClampNeg) := inb_of Sz15 ⟨by decide, by decide⟩
  have hat17 : cl15.slots[((1 : Int32)).toNatClampNeg]? = some (.int x1) := Hs15.at hin16 rfl
  obtain ⟨T18, X18, e18, st18⟩ := getS2 X14 hx hZ hown (host := "") (Or.inl (Da hw 62 rfl)) Via.refl e14 (Ka.ext O0.2) (g := (mkF m 53 #[.val (.ref q0), .val (.int 1)] [(.int (x1 &&& (255 : Int32))), (.int ((x0 &&& (255 : Int32)) <<< ((0 : Int32) &&& 31)))])) rfl (hb hby Ig)
  have k19 : ∀ t, Ga p e below m T18 59 #[.val (.ref q0), .val (.int 1)] [(.int ((((x0 &&& (255 : Int32)) <<< ((0 : Int32) &&& 31)) ||| ((x1 &&& (255 : Int32)) <<< ((8 : Int32) &&& 31))).toUInt32.toUInt16.toUInt32.toInt32))] t → Ra p e below m s₁ #[(.ref q0), (.int 0)] 2 t := by
    intro t k
    refine k00 t ?_
    refine st10 _ ?_
    refine XS.ifYes X10.here hx rfl (pc0 := 3) (pc' := 28) rfl (hb hby Wg) rfl ((if0 _ _).trans (feq (by decide : ¬ ((1 : Int32) = (0 : Int32)))).2) (by decide) (by decide) ?_
    refine XS.iloadN X10.here hx rfl (hb hby Gf) rfl ?_
    refine XS.iconst X10.here hx rfl (hb hby Hf) ?_
    refine XS.ishl X10.here hx rfl (hb hby Kf) rfl ?_
    show Ga p e below m T10 31 #[.val (.ref q0), .val (.int 0)] [(.int ((0 : Int32) <<< ((1 : Int32) &&& 31)))] t
    rw [show ((0 : Int32) <<< ((1 : Int32) &&& 31)) = (0 : Int32) from by decide]
    refine XS.istoreN X10.here hx rfl (hb hby Lf) rfl (l' := #[.val (.ref q0), .val (.int 0)]) rfl ?_
    refine XS.aloadN X10.here hx rfl (hb hby Mf) rfl rfl ?_
    show Ga p e below m T10 33 #[.val (.ref q0), .val (.int 0)] [(.ref q0)] t
    refine XS.iloadN X10.here hx rfl (hb hby Pf) rfl ?_
    refine XS.iinc X10.here hx rfl (hb hby Rf) rfl (l' := #[.val (.ref q0), .val (.int ((0 : Int32) + (1 : Int32)))]) rfl ?_
    show Ga p e below m T10 37 #[.val (.ref q0), .val (.int ((0 : Int32) + (1 : Int32)))] [(.int 0), (.ref q0)] t
    rw [show ((0 : Int32) + (1 : Int32)) = (1 : Int32) from by decide]
    refine X10.baloadBytes hx (j := (0 : Int32)) (v := (.int x0)) (by rw [e10]; exact Ar11.1) (State.isArrayOf_alike hZ.alike Ar11.2.1) Ar11.2.2 hin12 hat13 (g := (mkF m 37 #[.val (.ref q0), .val (.int 1)] [(.int 0), (.ref q0)])) rfl rfl (hb hby Uf) _ ?_
    refine XS.sipush X10.here hx rfl (hb hby Vf) ?_
    refine XS.iand X10.here hx rfl (hb hby Wf) rfl ?_
    refine st14 _ ?_
    refine XS.ishl X14.here hx rfl (hb hby Zf) rfl ?_
    show Ga p e below m T14 46 #[.val (.ref q0), .val (.int 1)] [(.int ((x0 &&& (255 : Int32)) <<< ((0 : Int32) &&& 31)))] t
    refine XS.aloadN X14.here hx rfl (hb hby Ag) rfl rfl ?_
    refine XS.iloadN X14.here hx rfl (hb hby Bg) rfl ?_
    refine X14.baloadBytes hx (j := (1 : Int32)) (v := (.int x1)) (by rw [e14]; exact Ar15.1) (State.isArrayOf_alike hZ.alike Ar15.2.1) Ar15.2.2 hin16 hat17 (g := (mkF m 48 #[.val (.ref q0), .val (.int 1)] [(.int 1), (.ref q0), (.int ((x0 &&& (255 : Int32)) <<< ((0 : Int32) &&& 31)))])) rfl rfl (hb hby Dg) _ ?_
    refine XS.sipush X14.here hx rfl (hb hby Gg) ?_
    refine XS.iand X14.here hx rfl (hb hby Hg) rfl ?_
    refine st18 _ ?_
    refine XS.ishl X18.here hx rfl (hb hby Kg) rfl ?_
    refine XS.ior X18.here hx rfl (hb hby Lg) rfl ?_
    show Ga p e below m T18 58 #[.val (.ref q0), .val (.int 1)] [(.int (((x0 &&& (255 : Int32)) <<< ((0 : Int32) &&& 31)) ||| ((x1 &&& (255 : Int32)) <<< ((8 : Int32) &&& 31))))] t
    refine XS.i2c X18.here hx rfl (hb hby Mg) rfl ?_
    exact k
  obtain ⟨fs, hr, hrun, hended, hW, hsame⟩ := X18.leave (v := some (.int ((((x0 &&& (255 : Int32)) <<< ((0 : Int32) &&& 31)) ||| ((x1 &&& (255 : Int32)) <<< ((8 : Int32) &&& 31))).toUInt32.toUInt16.toUInt32.toInt32))) (fun h => by rw [Bd.returns] at h; cases h)
  refine hNG ⟨_, _, k19 _ ?_, hrun, hended, _, _, rfl, ?_, ⟨_, rfl⟩, hW, hsame.mono (by decide) (by decide)⟩
  · exact retN X18 hx (t := .char) Bd.returns (by simp) (hb hby Pg) (by first | exact hr | (rw [show nar .char ((((x0 &&& (255 : Int32)) <<< ((0 : Int32) &&& 31)) ||| ((x1 &&& (255 : Int32)) <<< ((8 : Int32) &&& 31))).toUInt32.toUInt16.toUInt32.toInt32) = ((((x0 &&& (255 : Int32)) <<< ((0 : Int32) &&& 31)) ||| ((x1 &&& (255 : Int32)) <<< ((8 : Int32) &&& 31))).toUInt32.toUInt16.toUInt32.toInt32) from by first | rfl | exact Wi _ | decide]; exact hr))
  · show Dr Z q0 k0 x0 x1 x2 x3 x4 x5 Ba Aa h0 n0 _ T18.heap _
    rw [e18]
    exact ⟨rfl, N00, rfl⟩
theorem Uu (m : MethodId) (x0 : Addr) (x1 : Int32)  : entryFrame m #[(.ref x0), (.int x1)] 2 = mkF m 0 #[.val (.ref x0), .val (.int x1)] [] := by first | (simp [entryFrame, mkF, argsToLocals, Value.category]; done) | rfl
def Gr (Z : State) (q0 : Addr) (k0 : ClassId) (x0 : Int32) (x1 : Int32) (x2 : Int32) (x3 : Int32) (x4 : Int32) (x5 : Int32) (Ba : Int32) (Aa : Value) (h0 : Heap) (n0 : Nat) (v : Option Value) (h : Heap) (L : List Loc) : Prop := v = some (.int ((((x2 &&& (255 : Int32)) <<< ((0 : Int32) &&& 31)) ||| ((x3 &&& (255 : Int32)) <<< ((8 : Int32) &&& 31))).toUInt32.toUInt16.toUInt32.toInt32)) ∧ Fr n0 L ∧ h = h0
set_option maxRecDepth 65536 in
set_option maxHeartbeats 40000000 in
theorem Vu (l : Launch) (Z : State) (a0 : Array Value) (hw : ∀ d ∈ tables_1, d.before a0 Z = true) (ws : List Jvm.Cond) (q0 : Addr) (k0 : ClassId) (x0 : Int32) (x1 : Int32) (x2 : Int32) (x3 : Int32) (x4 : Int32) (x5 : Int32) (Ba : Int32) (Aa : Value) (h0 : Heap) (n0 : Nat) (O0 : Old Z n0 h0) (hE : EV Z Ba Aa) (P0 : Arv Z h0 q0 k0 .byte (6 : Int32) [(.int x0), (.int x1), (.int x2), (.int x3), (.int x4), (.int x5)] (.int 0)) :
    MetFree l Hi (head1 (Jvm.Cond.code Hi jdk_52_method_5_code 2 (some .char) :: ws) ({ frames := 0, cells := 0, slots := 0, locals := 0 } : Room)) (fun a U => a = #[(.ref q0), (.int 1)] ∧ Z.Warmed39 U.vm ∧ U.heap = h0) (fun _ _ _ _ _ => True) (fun _ U o U' => ∃ v L, o = .returned v ∧ Gr Z q0 k0 x0 x1 x2 x3 x4 x5 Ba Aa h0 n0 v U'.heap L ∧ FrameEnd U o U' L ({ frames := 0, cells := 0, slots := 0, locals := 0 } : Room).cells ({ frames := 0, cells := 0, slots := 0, locals := 0 } : Room).slots) := by
  refine MetFree.of_bodySF (plainFor_of_name Pa) hisR ?_
  intro p e s m args below meth c s₁ Bd hml0 hP hK
  obtain ⟨rfl, hZ, hh⟩ := hP
  have hx := Bd.exec
  have hby := Bd.bytes
  have hml : c.maxLocals = 2 := hml0
  have hown : s.vm.findClass "java/lang/StringUTF16" = some m.cls := findClass_of_methodNamed Bd.named
  have hnm := (name_of_methodNamed Bd.named Bd.method).1
  have X00 : Stand p l e ({ frames := 0, cells := 0, slots := 0, locals := 0 } : Room) s m #[(.ref q0), (.int 1)] below meth c s₁ [] 0 0 := Stand.of_body Bd
  have e00 : s₁.heap = h0 := by rw [← hh, Bd.state]; rfl
  have N00 := Fr.nil n0
  refine Classical.byContradiction fun hNG => ?_
  have K00 := Keep.refl h0 []
  have k00 : ∀ t, Ga p e below m s₁ 0 #[.val (.ref q0), .val (.int 1)] [] t → Ra p e below m s₁ #[(.ref q0), (.int 1)] 2 t := fun t k => castTop (Uu m q0 ((1 : Int32)) ) k
  obtain ⟨Ua, La, Va, Ma, Ha, Ia, Ka⟩ := (id hE : EV Z Ba Aa)
  obtain ⟨T10, X10, e10, st10⟩ := getS2 X00 hx hZ hown (host := "") (Or.inl (Da hw 60 rfl)) Via.refl e00 (Ha.ext O0.2) (g := (mkF m 0 #[.val (.ref q0), .val (.int 1)] [])) rfl (hb hby Vg)
  obtain ⟨cl11, Ar11, q11, Sz11, Nn11, Hs11, Gf11⟩ := id P0
  have hin12 : ¬ ((2 : Int32) < 0 ∨ cl11.slots.size ≤ ((2 : Int32)).toNatClampNeg) := inb_of Sz11 ⟨by decide, by decide⟩
  have hat13 : cl11.slots[((2 : Int32)).toNatClampNeg]? = some (.int x2) := Hs11.at hin12 rfl
  obtain ⟨T14, X14, e14, st14⟩ := getS2 X10 hx hZ hown (host := "") (Or.inl (Da hw 61 rfl)) Via.refl e10 (Ia.ext O0.2) (g := (mkF m 42 #[.val (.ref q0), .val (.int 3)] [(.int (x2 &&& (255 : Int32)))])) rfl (hb hby Yf)
  obtain ⟨cl15, Ar15, q15, Sz15, Nn15, Hs15, Gf15⟩ := id P0
  have hin16 : ¬ ((3 : Int32) < 0 ∨ cl15.slots.size ≤ ((3 : Int32)).toNatClampNeg) := inb_of Sz15 ⟨by decide, by decide⟩
  have hat17 : cl15.slots[((3 : Int32)).toNatClampNeg]? = some (.int x3) := Hs15.at hin16 rfl
  obtain ⟨T18, X18, e18, st18⟩ := getS2 X14 hx hZ hown (host := "") (Or.inl (Da hw 62 rfl)) Via.refl e14 (Ka.ext O0.2) (g := (mkF m 53 #[.val (.ref q0), .val (.int 3)] [(.int (x3 &&& (255 : Int32))), (.int ((x2 &&& (255 : Int32)) <<< ((0 : Int32) &&& 31)))])) rfl (hb hby Ig)
  have k19 : ∀ t, Ga p e below m T18 59 #[.val (.ref q0), .val (.int 3)] [(.int ((((x2 &&& (255 : Int32)) <<< ((0 : Int32) &&& 31)) ||| ((x3 &&& (255 : Int32)) <<< ((8 : Int32) &&& 31))).toUInt32.toUInt16.toUInt32.toInt32))] t → Ra p e below m s₁ #[(.ref q0), (.int 1)] 2 t := by
    intro t k
    refine k00 t ?_
    refine st10 _ ?_
    refine XS.ifYes X10.here hx rfl (pc0 := 3) (pc' := 28) rfl (hb hby Wg) rfl ((if0 _ _).trans (feq (by decide : ¬ ((1 : Int32) = (0 : Int32)))).2) (by decide) (by decide) ?_
    refine XS.iloadN X10.here hx rfl (hb hby Gf) rfl ?_
    refine XS.iconst X10.here hx rfl (hb hby Hf) ?_
    refine XS.ishl X10.here hx rfl (hb hby Kf) rfl ?_
    show Ga p e below m T10 31 #[.val (.ref q0), .val (.int 1)] [(.int ((1 : Int32) <<< ((1 : Int32) &&& 31)))] t
    rw [show ((1 : Int32) <<< ((1 : Int32) &&& 31)) = (2 : Int32) from by decide]
    refine XS.istoreN X10.here hx rfl (hb hby Lf) rfl (l' := #[.val (.ref q0), .val (.int 2)]) rfl ?_
    refine XS.aloadN X10.here hx rfl (hb hby Mf) rfl rfl ?_
    show Ga p e below m T10 33 #[.val (.ref q0), .val (.int 2)] [(.ref q0)] t
    refine XS.iloadN X10.here hx rfl (hb hby Pf) rfl ?_
    refine XS.iinc X10.here hx rfl (hb hby Rf) rfl (l' := #[.val (.ref q0), .val (.int ((2 : Int32) + (1 : Int32)))]) rfl ?_
    show Ga p e below m T10 37 #[.val (.ref q0), .val (.int ((2 : Int32) + (1 : Int32)))] [(.int 2), (.ref q0)] t
    rw [show ((2 : Int32) + (1 : Int32)) = (3 : Int32) from by decide]
    refine X10.baloadBytes hx (j := (2 : Int32)) (v := (.int x2)) (by rw [e10]; exact Ar11.1) (State.isArrayOf_alike hZ.alike Ar11.2.1) Ar11.2.2 hin12 hat13 (g := (mkF m 37 #[.val (.ref q0), .val (.int 3)] [(.int 2), (.ref q0)])) rfl rfl (hb hby Uf) _ ?_
    refine XS.sipush X10.here hx rfl (hb hby Vf) ?_
    refine XS.iand X10.here hx rfl (hb hby Wf) rfl ?_
    refine st14 _ ?_
    refine XS.ishl X14.here hx rfl (hb hby Zf) rfl ?_
    show Ga p e below m T14 46 #[.val (.ref q0), .val (.int 3)] [(.int ((x2 &&& (255 : Int32)) <<< ((0 : Int32) &&& 31)))] t
    refine XS.aloadN X14.here hx rfl (hb hby Ag) rfl rfl ?_
    refine XS.iloadN X14.here hx rfl (hb hby Bg) rfl ?_
    refine X14.baloadBytes hx (j := (3 : Int32)) (v := (.int x3)) (by rw [e14]; exact Ar15.1) (State.isArrayOf_alike hZ.alike Ar15.2.1) Ar15.2.2 hin16 hat17 (g := (mkF m 48 #[.val (.ref q0), .val (.int 3)] [(.int 3), (.ref q0), (.int ((x2 &&& (255 : Int32)) <<< ((0 : Int32) &&& 31)))])) rfl rfl (hb hby Dg) _ ?_
    refine XS.sipush X14.here hx rfl (hb hby Gg) ?_
    refine XS.iand X14.here hx rfl (hb hby Hg) rfl ?_
    refine st18 _ ?_
    refine XS.ishl X18.here hx rfl (hb hby Kg) rfl ?_
    refine XS.ior X18.here hx rfl (hb hby Lg) rfl ?_
    show Ga p e below m T18 58 #[.val (.ref q0), .val (.int 3)] [(.int (((x2 &&& (255 : Int32)) <<< ((0 : Int32) &&& 31)) ||| ((x3 &&& (255 : Int32)) <<< ((8 : Int32) &&& 31))))] t
    refine XS.i2c X18.here hx rfl (hb hby Mg) rfl ?_
    exact k
  obtain ⟨fs, hr, hrun, hended, hW, hsame⟩ := X18.leave (v := some (.int ((((x2 &&& (255 : Int32)) <<< ((0 : Int32) &&& 31)) ||| ((x3 &&& (255 : Int32)) <<< ((8 : Int32) &&& 31))).toUInt32.toUInt16.toUInt32.toInt32))) (fun h => by rw [Bd.returns] at h; cases h)
  refine hNG ⟨_, _, k19 _ ?_, hrun, hended, _, _, rfl, ?_, ⟨_, rfl⟩, hW, hsame.mono (by decide) (by decide)⟩
  · exact retN X18 hx (t := .char) Bd.returns (by simp) (hb hby Pg) (by first | exact hr | (rw [show nar .char ((((x2 &&& (255 : Int32)) <<< ((0 : Int32) &&& 31)) ||| ((x3 &&& (255 : Int32)) <<< ((8 : Int32) &&& 31))).toUInt32.toUInt16.toUInt32.toInt32) = ((((x2 &&& (255 : Int32)) <<< ((0 : Int32) &&& 31)) ||| ((x3 &&& (255 : Int32)) <<< ((8 : Int32) &&& 31))).toUInt32.toUInt16.toUInt32.toInt32) from by first | rfl | exact Wi _ | decide]; exact hr))
  · show Gr Z q0 k0 x0 x1 x2 x3 x4 x5 Ba Aa h0 n0 _ T18.heap _
    rw [e18]
    exact ⟨rfl, N00, rfl⟩
theorem Wu (m : MethodId) (x0 : Addr) (x1 : Int32)  : entryFrame m #[(.ref x0), (.int x1)] 2 = mkF m 0 #[.val (.ref x0), .val (.int x1)] [] := by first | (simp [entryFrame, mkF, argsToLocals, Value.category]; done) | rfl
def Hr (Z : State) (q0 : Addr) (k0 : ClassId) (x0 : Int32) (x1 : Int32) (x2 : Int32) (x3 : Int32) (x4 : Int32) (x5 : Int32) (Ba : Int32) (Aa : Value) (h0 : Heap) (n0 : Nat) (v : Option Value) (h : Heap) (L : List Loc) : Prop := v = some (.int ((((x4 &&& (255 : Int32)) <<< ((0 : Int32) &&& 31)) ||| ((x5 &&& (255 : Int32)) <<< ((8 : Int32) &&& 31))).toUInt32.toUInt16.toUInt32.toInt32)) ∧ Fr n0 L ∧ h = h0
set_option maxRecDepth 65536 in
set_option maxHeartbeats 40000000 in
theorem Yu (l : Launch) (Z : State) (a0 : Array Value) (hw : ∀ d ∈ tables_1, d.before a0 Z = true) (ws : List Jvm.Cond) (q0 : Addr) (k0 : ClassId) (x0 : Int32) (x1 : Int32) (x2 : Int32) (x3 : Int32) (x4 : Int32) (x5 : Int32) (Ba : Int32) (Aa : Value) (h0 : Heap) (n0 : Nat) (O0 : Old Z n0 h0) (hE : EV Z Ba Aa) (P0 : Arv Z h0 q0 k0 .byte (6 : Int32) [(.int x0), (.int x1), (.int x2), (.int x3), (.int x4), (.int x5)] (.int 0)) :
    MetFree l Hi (head1 (Jvm.Cond.code Hi jdk_52_method_5_code 2 (some .char) :: ws) ({ frames := 0, cells := 0, slots := 0, locals := 0 } : Room)) (fun a U => a = #[(.ref q0), (.int 2)] ∧ Z.Warmed39 U.vm ∧ U.heap = h0) (fun _ _ _ _ _ => True) (fun _ U o U' => ∃ v L, o = .returned v ∧ Hr Z q0 k0 x0 x1 x2 x3 x4 x5 Ba Aa h0 n0 v U'.heap L ∧ FrameEnd U o U' L ({ frames := 0, cells := 0, slots := 0, locals := 0 } : Room).cells ({ frames := 0, cells := 0, slots := 0, locals := 0 } : Room).slots) := by
  refine MetFree.of_bodySF (plainFor_of_name Pa) hisR ?_
  intro p e s m args below meth c s₁ Bd hml0 hP hK
  obtain ⟨rfl, hZ, hh⟩ := hP
  have hx := Bd.exec
  have hby := Bd.bytes
  have hml : c.maxLocals = 2 := hml0
  have hown : s.vm.findClass "java/lang/StringUTF16" = some m.cls := findClass_of_methodNamed Bd.named
  have hnm := (name_of_methodNamed Bd.named Bd.method).1
  have X00 : Stand p l e ({ frames := 0, cells := 0, slots := 0, locals := 0 } : Room) s m #[(.ref q0), (.int 2)] below meth c s₁ [] 0 0 := Stand.of_body Bd
  have e00 : s₁.heap = h0 := by rw [← hh, Bd.state]; rfl
  have N00 := Fr.nil n0
  refine Classical.byContradiction fun hNG => ?_
  have K00 := Keep.refl h0 []
  have k00 : ∀ t, Ga p e below m s₁ 0 #[.val (.ref q0), .val (.int 2)] [] t → Ra p e below m s₁ #[(.ref q0), (.int 2)] 2 t := fun t k => castTop (Wu m q0 ((2 : Int32)) ) k
  obtain ⟨Ua, La, Va, Ma, Ha, Ia, Ka⟩ := (id hE : EV Z Ba Aa)
  obtain ⟨T10, X10, e10, st10⟩ := getS2 X00 hx hZ hown (host := "") (Or.inl (Da hw 60 rfl)) Via.refl e00 (Ha.ext O0.2) (g := (mkF m 0 #[.val (.ref q0), .val (.int 2)] [])) rfl (hb hby Vg)
  obtain ⟨cl11, Ar11, q11, Sz11, Nn11, Hs11, Gf11⟩ := id P0
  have hin12 : ¬ ((4 : Int32) < 0 ∨ cl11.slots.size ≤ ((4 : Int32)).toNatClampNeg) := inb_of Sz11 ⟨by decide, by decide⟩
  have hat13 : cl11.slots[((4 : Int32)).toNatClampNeg]? = some (.int x4) := Hs11.at hin12 rfl
  obtain ⟨T14, X14, e14, st14⟩ := getS2 X10 hx hZ hown (host := "") (Or.inl (Da hw 61 rfl)) Via.refl e10 (Ia.ext O0.2) (g := (mkF m 42 #[.val (.ref q0), .val (.int 5)] [(.int (x4 &&& (255 : Int32)))])) rfl (hb hby Yf)
  obtain ⟨cl15, Ar15, q15, Sz15, Nn15, Hs15, Gf15⟩ := id P0
  have hin16 : ¬ ((5 : Int32) < 0 ∨ cl15.slots.size ≤ ((5 : Int32)).toNatClampNeg) := inb_of Sz15 ⟨by decide, by decide⟩
  have hat17 : cl15.slots[((5 : Int32)).toNatClampNeg]? = some (.int x5) := Hs15.at hin16 rfl
  obtain ⟨T18, X18, e18, st18⟩ := getS2 X14 hx hZ hown (host := "") (Or.inl (Da hw 62 rfl)) Via.refl e14 (Ka.ext O0.2) (g := (mkF m 53 #[.val (.ref q0), .val (.int 5)] [(.int (x5 &&& (255 : Int32))), (.int ((x4 &&& (255 : Int32)) <<< ((0 : Int32) &&& 31)))])) rfl (hb hby Ig)
  have k19 : ∀ t, Ga p e below m T18 59 #[.val (.ref q0), .val (.int 5)] [(.int ((((x4 &&& (255 : Int32)) <<< ((0 : Int32) &&& 31)) ||| ((x5 &&& (255 : Int32)) <<< ((8 : Int32) &&& 31))).toUInt32.toUInt16.toUInt32.toInt32))] t → Ra p e below m s₁ #[(.ref q0), (.int 2)] 2 t := by
    intro t k
    refine k00 t ?_
    refine st10 _ ?_
    refine XS.ifYes X10.here hx rfl (pc0 := 3) (pc' := 28) rfl (hb hby Wg) rfl ((if0 _ _).trans (feq (by decide : ¬ ((1 : Int32) = (0 : Int32)))).2) (by decide) (by decide) ?_
    refine XS.iloadN X10.here hx rfl (hb hby Gf) rfl ?_
    refine XS.iconst X10.here hx rfl (hb hby Hf) ?_
    refine XS.ishl X10.here hx rfl (hb hby Kf) rfl ?_
    show Ga p e below m T10 31 #[.val (.ref q0), .val (.int 2)] [(.int ((2 : Int32) <<< ((1 : Int32) &&& 31)))] t
    rw [show ((2 : Int32) <<< ((1 : Int32) &&& 31)) = (4 : Int32) from by decide]
    refine XS.istoreN X10.here hx rfl (hb hby Lf) rfl (l' := #[.val (.ref q0), .val (.int 4)]) rfl ?_
    refine XS.aloadN X10.here hx rfl (hb hby Mf) rfl rfl ?_
    show Ga p e below m T10 33 #[.val (.ref q0), .val (.int 4)] [(.ref q0)] t
    refine XS.iloadN X10.here hx rfl (hb hby Pf) rfl ?_
    refine XS.iinc X10.here hx rfl (hb hby Rf) rfl (l' := #[.val (.ref q0), .val (.int ((4 : Int32) + (1 : Int32)))]) rfl ?_
    show Ga p e below m T10 37 #[.val (.ref q0), .val (.int ((4 : Int32) + (1 : Int32)))] [(.int 4), (.ref q0)] t
    rw [show ((4 : Int32) + (1 : Int32)) = (5 : Int32) from by decide]
    refine X10.baloadBytes hx (j := (4 : Int32)) (v := (.int x4)) (by rw [e10]; exact Ar11.1) (State.isArrayOf_alike hZ.alike Ar11.2.1) Ar11.2.2 hin12 hat13 (g := (mkF m 37 #[.val (.ref q0), .val (.int 5)] [(.int 4), (.ref q0)])) rfl rfl (hb hby Uf) _ ?_
    refine XS.sipush X10.here hx rfl (hb hby Vf) ?_
    refine XS.iand X10.here hx rfl (hb hby Wf) rfl ?_
    refine st14 _ ?_
    refine XS.ishl X14.here hx rfl (hb hby Zf) rfl ?_
    show Ga p e below m T14 46 #[.val (.ref q0), .val (.int 5)] [(.int ((x4 &&& (255 : Int32)) <<< ((0 : Int32) &&& 31)))] t
    refine XS.aloadN X14.here hx rfl (hb hby Ag) rfl rfl ?_
    refine XS.iloadN X14.here hx rfl (hb hby Bg) rfl ?_
    refine X14.baloadBytes hx (j := (5 : Int32)) (v := (.int x5)) (by rw [e14]; exact Ar15.1) (State.isArrayOf_alike hZ.alike Ar15.2.1) Ar15.2.2 hin16 hat17 (g := (mkF m 48 #[.val (.ref q0), .val (.int 5)] [(.int 5), (.ref q0), (.int ((x4 &&& (255 : Int32)) <<< ((0 : Int32) &&& 31)))])) rfl rfl (hb hby Dg) _ ?_
    refine XS.sipush X14.here hx rfl (hb hby Gg) ?_
    refine XS.iand X14.here hx rfl (hb hby Hg) rfl ?_
    refine st18 _ ?_
    refine XS.ishl X18.here hx rfl (hb hby Kg) rfl ?_
    refine XS.ior X18.here hx rfl (hb hby Lg) rfl ?_
    show Ga p e below m T18 58 #[.val (.ref q0), .val (.int 5)] [(.int (((x4 &&& (255 : Int32)) <<< ((0 : Int32) &&& 31)) ||| ((x5 &&& (255 : Int32)) <<< ((8 : Int32) &&& 31))))] t
    refine XS.i2c X18.here hx rfl (hb hby Mg) rfl ?_
    exact k
  obtain ⟨fs, hr, hrun, hended, hW, hsame⟩ := X18.leave (v := some (.int ((((x4 &&& (255 : Int32)) <<< ((0 : Int32) &&& 31)) ||| ((x5 &&& (255 : Int32)) <<< ((8 : Int32) &&& 31))).toUInt32.toUInt16.toUInt32.toInt32))) (fun h => by rw [Bd.returns] at h; cases h)
  refine hNG ⟨_, _, k19 _ ?_, hrun, hended, _, _, rfl, ?_, ⟨_, rfl⟩, hW, hsame.mono (by decide) (by decide)⟩
  · exact retN X18 hx (t := .char) Bd.returns (by simp) (hb hby Pg) (by first | exact hr | (rw [show nar .char ((((x4 &&& (255 : Int32)) <<< ((0 : Int32) &&& 31)) ||| ((x5 &&& (255 : Int32)) <<< ((8 : Int32) &&& 31))).toUInt32.toUInt16.toUInt32.toInt32) = ((((x4 &&& (255 : Int32)) <<< ((0 : Int32) &&& 31)) ||| ((x5 &&& (255 : Int32)) <<< ((8 : Int32) &&& 31))).toUInt32.toUInt16.toUInt32.toInt32) from by first | rfl | exact Wi _ | decide]; exact hr))
  · show Hr Z q0 k0 x0 x1 x2 x3 x4 x5 Ba Aa h0 n0 _ T18.heap _
    rw [e18]
    exact ⟨rfl, N00, rfl⟩
theorem Hy (m : MethodId) (x0 : Addr) (x1 : Int32) (x2 : Int32)  : entryFrame m #[(.ref x0), (.int x1), (.int x2)] 6 = mkF m 0 #[.val (.ref x0), .val (.int x1), .val (.int x2), .unset, .unset, .unset] [] := by first | (simp [entryFrame, mkF, argsToLocals, Value.category]; done) | rfl
def Yo (Z : State) (t0 : Addr) (k0 : ClassId) (c0 : Int32) (c1 : Int32) (c2 : Int32) (Ba : Int32) (Aa : Value) (h0 : Heap) (n0 : Nat) (v : Option Value) (h : Heap) (L : List Loc) : Prop := ∃ (b : Addr) (z : Int32) (k : ClassId) (vs : List Value), v = some (.ref b) ∧ Fr n0 L ∧ Old Z n0 h ∧ Keep h0 h [] ∧ n0 ≤ b ∧ h0.size ≤ b ∧ Arv Z h b k .byte z vs (.int 0) ∧ ((z = (3 : Int32) ∨ z = (6 : Int32)))
set_option maxRecDepth 65536 in
set_option maxHeartbeats 40000000 in
theorem Iy (l : Launch) (Z : State) (a0 : Array Value) (hw : ∀ d ∈ tables_1, d.before a0 Z = true) (ws : List Jvm.Cond) (t0 : Addr) (k0 : ClassId) (c0 : Int32) (c1 : Int32) (c2 : Int32) (Ba : Int32) (Aa : Value) (h0 : Heap) (n0 : Nat) (O0 : Old Z n0 h0) (hE : EV Z Ba Aa) (P0 : Arv Z h0 t0 k0 .char (3 : Int32) [(.int c0), (.int c1), (.int c2)] (.int 0)) (lo0 : ¬ c0 < 0) (hi0 : ¬ (65535 : Int32) < c0) (lo1 : ¬ c1 < 0) (hi1 : ¬ (65535 : Int32) < c1) (lo2 : ¬ c2 < 0) (hi2 : ¬ (65535 : Int32) < c2) :
    MetFree l Rm (head1 (Jvm.Cond.code Rm jdk_52_method_16_code 6 (some (.array .byte)) :: ws) ({ frames := 3, cells := 2, slots := 9, locals := 40 } : Room)) (fun a U => a = #[(.ref t0), (.int 0), (.int 3)] ∧ Z.Warmed39 U.vm ∧ U.heap = h0) (fun _ _ _ _ _ => True) (fun _ U o U' => ∃ v L, o = .returned v ∧ Yo Z t0 k0 c0 c1 c2 Ba Aa h0 n0 v U'.heap L ∧ FrameEnd U o U' L ({ frames := 3, cells := 2, slots := 9, locals := 40 } : Room).cells ({ frames := 3, cells := 2, slots := 9, locals := 40 } : Room).slots) := by
  refine MetFree.of_bodySF (plainFor_of_name Pa) hisR ?_
  intro p e s m args below meth c s₁ Bd hml0 hP hK
  obtain ⟨rfl, hZ, hh⟩ := hP
  have hx := Bd.exec
  have hby := Bd.bytes
  have hml : c.maxLocals = 6 := hml0
  have hown : s.vm.findClass "java/lang/StringUTF16" = some m.cls := findClass_of_methodNamed Bd.named
  have hnm := (name_of_methodNamed Bd.named Bd.method).1
  have X00 : Stand p l e ({ frames := 3, cells := 2, slots := 9, locals := 40 } : Room) s m #[(.ref t0), (.int 0), (.int 3)] below meth c s₁ [] 0 0 := Stand.of_body Bd
  have e00 : s₁.heap = h0 := by rw [← hh, Bd.state]; rfl
  have N00 := Fr.nil n0
  refine Classical.byContradiction fun hNG => ?_
  have K00 := Keep.refl h0 []
  have k00 : ∀ t, Ga p e below m s₁ 0 #[.val (.ref t0), .val (.int 0), .val (.int 3), .unset, .unset, .unset] [] t → Ra p e below m s₁ #[(.ref t0), (.int 0), (.int 3)] 6 t := fun t k => castTop (Hy m t0 ((0 : Int32)) ((3 : Int32)) ) k
  obtain ⟨Ua, La, Va, Ma, Ha, Ia, Ka⟩ := (id hE : EV Z Ba Aa)
  obtain ⟨T10, h10, c10, X10, e10, E10, A10, st10⟩ := newP X00 hx hZ (Da hw 20 rfl) e00 (g := (mkF m 1 #[.val (.ref t0), .val (.int 0), .val (.int 3), .unset, .unset, .unset] [(.int 3)])) rfl (hb hby Pk) rfl (by decide) (cap := 3) (by decide) (by decide) (by decide) (by decide)
  obtain ⟨b10, g10⟩ : ∃ z, z = h0.size := ⟨_, rfl⟩
  rw [← g10] at A10 st10
  have O10 := O0.ext E10
  have g_b10 : n0 ≤ b10 := Nat.le_trans (Nat.le_of_eq O0.1.symm) (Nat.le_trans O0.2.1 (Nat.le_of_eq g10.symm))
  have s_b10 : h0.size ≤ b10 := Nat.le_trans K00.1 (Nat.le_of_eq g10.symm)
  have K10 := K00.ext E10
  have V10 : Arv Z h10 b10 c10 .byte (3 : Int32) [(.int 0), (.int 0), (.int 0)] (.int 0) := (Arv.new A10 (by decide)).pad (pad_rep [] (.int 0) 3)
  have lt_b10 := V10.lt
  have ne11 : ¬ (t0 = b10) := (Nat.ne_of_lt (Nat.lt_of_lt_of_le P0.lt (Nat.le_of_eq g10.symm)))
  have f12 := (P0.ext E10)
  obtain ⟨_, _, ⟨T13, L13, k13, n13⟩, -, X13, ⟨Lc13, hQ13, l13, y13, z13⟩, st13⟩ := Jvm.LawKit.callS X10 hx (y := Lm) hown (mvT hZ (Da hw 21 rfl)) (mvT hZ (Da hw 22 rfl)) (mvT hZ (Da hw 18 rfl)) (mvT hZ (Da hw 23 rfl)) (by decide) (backOf (W := 0) (Zx l Z a0 hw [] t0 b10 k0 c10 c0 c1 c2 _ _ h10 n0 O10 hE f12 V10 g_b10 ne11) hZ (Da hw 23 rfl) (Da hw 18 rfl) (by decide) (by decide)) (g := (mkF m 9 #[.val (.ref t0), .val (.int 0), .val (.int 3), .val (.ref b10), .unset, .unset] [(.int 3), (.int 0), (.ref b10), (.int 0), (.ref t0)])) rfl (by rw [hml]; rfl) (argsL := [(.ref t0), (.int 0), (.ref b10), (.int 0), (.int 3)]) (rest := []) (lenOf Dn rfl) rfl (by show 2 * 0 + _ ≤ _; exact Nat.le_of_eq rfl) (hb hby Al) (fun _ _ => ⟨rfl, e10, (by decide : 1 + 0 ≤ _), (by decide : 3 + 0 ≤ _)⟩)
  dsimp only [Pt.U, Pt.locs, Pt.cells, Pt.slots] at X13 l13 y13 z13 st13 hQ13
  subst l13 y13 z13
  obtain ⟨kk13, vs13, rfl, N13q, O13, Kc13, F13_0, D13_0⟩ := hQ13
  have N13 := Fr.app N00 N13q
  have K13 := K10.trans Kc13 (allS (Or.inr s_b10) all0)
  have k14 : ∀ t, Ga p e below m T13 12 #[.val (.ref t0), .val (.int 0), .val (.int 3), .val (.ref b10), .unset, .unset] [(.int kk13)] t → Ra p e below m s₁ #[(.ref t0), (.int 0), (.int 3)] 6 t := by
    intro t k
    refine k00 t ?_
    refine XS.iloadN X00.here hx rfl (hb hby Mk) rfl ?_
    refine st10 _ ?_
    refine XS.astoreN X10.here hx rfl (hb hby Rk) rfl rfl (l' := #[.val (.ref t0), .val (.int 0), .val (.int 3), .val (.ref b10), .unset, .unset]) rfl ?_
    refine XS.aloadN X10.here hx rfl (hb hby Uk) rfl rfl ?_
    refine XS.iloadN X10.here hx rfl (hb hby Vk) rfl ?_
    refine XS.aloadN X10.here hx rfl (hb hby Wk) rfl rfl ?_
    refine XS.iconst X10.here hx rfl (hb hby Yk) ?_
    refine XS.iloadN X10.here hx rfl (hb hby Zk) rfl ?_
    show Ga p e below m T10 9 #[.val (.ref t0), .val (.int 0), .val (.int 3), .val (.ref b10), .unset, .unset] [(.int 3), (.int 0), (.ref b10), (.int 0), (.ref t0)] t
    refine st13 _ ?_
    exact k
  rcases D13_0 with hq | ⟨hq, hb15⟩ | ⟨hq, hb15⟩ | ⟨hq, hb15⟩
  · have k16 : ∀ t, Ga p e below m T13 12 #[.val (.ref t0), .val (.int 0), .val (.int 3), .val (.ref b10), .unset, .unset] [(.int 3)] t → Ra p e below m s₁ #[(.ref t0), (.int 0), (.int 3)] 6 t := by
      intro t k
      refine k14 t ?_
      rw [hq]
      exact k
    have k17 : ∀ t, Ga p e below m T13 58 #[.val (.ref t0), .val (.int 0), .val (.int 3), .val (.ref b10), .val (.int 3), .unset] [(.ref b10)] t → Ra p e below m s₁ #[(.ref t0), (.int 0), (.int 3)] 6 t := by
      intro t k
      refine k16 t ?_
      refine XS.istore X13.here hx rfl (hb hby Ab) rfl (l' := #[.val (.ref t0), .val (.int 0), .val (.int 3), .val (.ref b10), .val (.int 3), .unset]) rfl ?_
      refine XS.iload X13.here hx rfl (hb hby Bb) rfl ?_
      refine XS.iloadN X13.here hx rfl (hb hby Db) rfl ?_
      refine XS.icmpYes X13.here hx rfl (pc0 := 17) (pc' := 57) rfl (hb hby Gb) rfl (teq (by decide : (3 : Int32) = (3 : Int32))).1 (by decide) (by decide) ?_
      refine XS.aloadN X13.here hx rfl (hb hby Gj) rfl rfl ?_
      exact k
    obtain ⟨fs, hr, hrun, hended, hW, hsame⟩ := X13.leave (v := some (.ref b10)) (fun h => by rw [Bd.returns] at h; cases h)
    refine hNG ⟨_, _, k17 _ ?_, hrun, hended, _, _, rfl, ?_, ⟨_, rfl⟩, hW, hsame.mono (by decide) (by decide)⟩
    · exact retOut X13 hx (t := (.array .byte)) Bd.returns rfl (Or.inr (Or.inr (Or.inr (Or.inr ⟨rfl, rfl, rfl⟩)))) (hb hby Hj) hr
    · show Yo Z t0 k0 c0 c1 c2 Ba Aa h0 n0 _ T13.heap _
      exact ⟨b10, (3 : Int32), _, _, rfl, N13, O13, K13, g_b10, s_b10, F13_0, Or.inl rfl⟩
  · have k18 : ∀ t, Ga p e below m T13 12 #[.val (.ref t0), .val (.int 0), .val (.int 3), .val (.ref b10), .unset, .unset] [(.int 0)] t → Ra p e below m s₁ #[(.ref t0), (.int 0), (.int 3)] 6 t := by
      intro t k
      refine k14 t ?_
      rw [hq]
      exact k
    have f19 := (f12.keep Kc13 (fun q => ne11 (List.mem_singleton.mp q)))
    obtain ⟨_, _, ⟨T20, L20, k20, n20⟩, -, X20, ⟨Lc20, hQ20, l20, y20, z20⟩, st20⟩ := Jvm.LawKit.callS X13 hx (y := Am) hown (mvT hZ (Da hw 47 rfl)) (mvT hZ (Da hw 48 rfl)) (mvT hZ (Da hw 18 rfl)) (mvT hZ (Da hw 49 rfl)) (by decide) (backOf (W := 0) (Rp l Z a0 hw [] t0 k0 c0 c1 c2 _ _ T13.heap n0 O13 hE f19 ) hZ (Da hw 49 rfl) (Da hw 18 rfl) (by decide) (by decide)) (g := (mkF m 23 #[.val (.ref t0), .val (.int 0), .val (.int 3), .val (.ref b10), .val (.int 0), .unset] [(.int 3), (.int 0), (.ref t0)])) rfl (by rw [hml]; rfl) (argsL := [(.ref t0), (.int 0), (.int 3)]) (rest := []) (lenOf Ii rfl) rfl (by show 2 * 0 + _ ≤ _; exact Nat.le_of_eq rfl) (hb hby Kd) (fun _ _ => ⟨rfl, rfl, (by decide : 1 + 1 ≤ _), (by decide : 3 + 6 ≤ _)⟩)
    dsimp only [Pt.U, Pt.locs, Pt.cells, Pt.slots] at X20 l20 y20 z20 st20 hQ20
    subst l20 y20 z20
    obtain ⟨b20, k20, rfl, N20q, O20, Kc20, g_b20, gs_b20, F20_0⟩ := hQ20
    have N20 := Fr.app N13 N20q
    have K20 := K13.trans Kc20 (fun x hx => nomatch hx)
    have s_b20 := Nat.le_trans K13.1 gs_b20
    have lt_b20 := F20_0.lt
    obtain ⟨_, _, ⟨T21, L21, k21, n21⟩, -, X21, ⟨Lc21, hQ21, l21, y21, z21⟩, st21⟩ := Jvm.LawKit.callS X20 hx (y := Hi) hown (mvT hZ (Da hw 63 rfl)) (mvT hZ (Da hw 64 rfl)) (mvT hZ (Da hw 18 rfl)) (mvT hZ (Da hw 65 rfl)) (by decide) (backOf (W := 0) (Ru l Z a0 hw [] b20 k20 ((c0 >>> ((0 : Int32) &&& 31)).toInt8.toInt32) ((c0 >>> ((8 : Int32) &&& 31)).toInt8.toInt32) ((c1 >>> ((0 : Int32) &&& 31)).toInt8.toInt32) ((c1 >>> ((8 : Int32) &&& 31)).toInt8.toInt32) ((c2 >>> ((0 : Int32) &&& 31)).toInt8.toInt32) ((c2 >>> ((8 : Int32) &&& 31)).toInt8.toInt32) _ _ T20.heap n0 O20 hE F20_0 ) hZ (Da hw 65 rfl) (Da hw 18 rfl) (by decide) (by decide)) (g := (mkF m 32 #[.val (.ref t0), .val (.int 0), .val (.int 3), .val (.ref b10), .val (.int 0), .val (.ref b20)] [(.int 0), (.ref b20)])) rfl (by rw [hml]; rfl) (argsL := [(.ref b20), (.int 0)]) (rest := []) (lenOf Gm rfl) rfl (by show 2 * 0 + _ ≤ _; exact Nat.le_of_eq rfl) (hb hby Rd) (fun _ _ => ⟨rfl, rfl, (by decide : 2 + 0 ≤ _), (by decide : 9 + 0 ≤ _)⟩)
    dsimp only [Pt.U, Pt.locs, Pt.cells, Pt.slots] at X21 l21 y21 z21 st21 hQ21
    subst l21 y21 z21
    obtain ⟨rfl, N21q, hp21⟩ := hQ21
    have N21 := Fr.app N20 N21q
    have k22 : ∀ t, Ga p e below m T21 56 #[.val (.ref t0), .val (.int 0), .val (.int 3), .val (.ref b10), .val (.int 0), .val (.ref b20)] [(.ref b20)] t → Ra p e below m s₁ #[(.ref t0), (.int 0), (.int 3)] 6 t := by
      intro t k
      refine k18 t ?_
      refine XS.istore X13.here hx rfl (hb hby Ab) rfl (l' := #[.val (.ref t0), .val (.int 0), .val (.int 3), .val (.ref b10), .val (.int 0), .unset]) rfl ?_
      refine XS.iload X13.here hx rfl (hb hby Bb) rfl ?_
      refine XS.iloadN X13.here hx rfl (hb hby Db) rfl ?_
      refine XS.icmpNo X13.here hx rfl (hb hby Gb) rfl (feq (by decide : ¬ ((0 : Int32) = (3 : Int32)))).1 ?_
      refine XS.aloadN X13.here hx rfl (hb hby Gd) rfl rfl ?_
      refine XS.iloadN X13.here hx rfl (hb hby Hd) rfl ?_
      refine XS.iloadN X13.here hx rfl (hb hby Id) rfl ?_
      refine st20 _ ?_
      show Ga p e below m T20 26 #[.val (.ref t0), .val (.int 0), .val (.int 3), .val (.ref b10), .val (.int 0), .unset] [(.ref b20)] t
      refine XS.astore X20.here hx rfl (hb hby Ld) rfl rfl (l' := #[.val (.ref t0), .val (.int 0), .val (.int 3), .val (.ref b10), .val (.int 0), .val (.ref b20)]) rfl ?_
      refine XS.aload X20.here hx rfl (hb hby Md) rfl rfl ?_
      refine XS.iload X20.here hx rfl (hb hby Pd) rfl ?_
      refine st21 _ ?_
      refine XS.sipush X21.here hx rfl (hb hby Ud) ?_
      refine XS.icmpYes X21.here hx rfl (pc0 := 38) (pc' := 54) rfl (hb hby Vd) rfl (tlt (by rw [Hm lo0 hi0]; exact hb15)).2.2.1 (by decide) (by decide) ?_
      refine XS.aload X21.here hx rfl (hb hby Wd) rfl rfl ?_
      exact k
    obtain ⟨fs, hr, hrun, hended, hW, hsame⟩ := X21.leave (v := some (.ref b20)) (fun h => by rw [Bd.returns] at h; cases h)
    refine hNG ⟨_, _, k22 _ ?_, hrun, hended, _, _, rfl, ?_, ⟨_, rfl⟩, hW, hsame.mono (by decide) (by decide)⟩
    · exact retOut X21 hx (t := (.array .byte)) Bd.returns rfl (Or.inr (Or.inr (Or.inr (Or.inr ⟨rfl, rfl, rfl⟩)))) (hb hby Yd) hr
    · show Yo Z t0 k0 c0 c1 c2 Ba Aa h0 n0 _ T21.heap _
      rw [hp21]
      exact ⟨b20, (6 : Int32), _, _, rfl, N21, O20, K20, g_b20, s_b20, F20_0, Or.inr rfl⟩
  · have k23 : ∀ t, Ga p e below m T13 12 #[.val (.ref t0), .val (.int 0), .val (.int 3), .val (.ref b10), .unset, .unset] [(.int 1)] t → Ra p e below m s₁ #[(.ref t0), (.int 0), (.int 3)] 6 t := by
      intro t k
      refine k14 t ?_
      rw [hq]
      exact k
    have f24 := (f12.keep Kc13 (fun q => ne11 (List.mem_singleton.mp q)))
    obtain ⟨_, _, ⟨T25, L25, k25, n25⟩, -, X25, ⟨Lc25, hQ25, l25, y25, z25⟩, st25⟩ := Jvm.LawKit.callS X13 hx (y := Am) hown (mvT hZ (Da hw 47 rfl)) (mvT hZ (Da hw 48 rfl)) (mvT hZ (Da hw 18 rfl)) (mvT hZ (Da hw 49 rfl)) (by decide) (backOf (W := 0) (Rp l Z a0 hw [] t0 k0 c0 c1 c2 _ _ T13.heap n0 O13 hE f24 ) hZ (Da hw 49 rfl) (Da hw 18 rfl) (by decide) (by decide)) (g := (mkF m 23 #[.val (.ref t0), .val (.int 0), .val (.int 3), .val (.ref b10), .val (.int 1), .unset] [(.int 3), (.int 0), (.ref t0)])) rfl (by rw [hml]; rfl) (argsL := [(.ref t0), (.int 0), (.int 3)]) (rest := []) (lenOf Ii rfl) rfl (by show 2 * 0 + _ ≤ _; exact Nat.le_of_eq rfl) (hb hby Kd) (fun _ _ => ⟨rfl, rfl, (by decide : 1 + 1 ≤ _), (by decide : 3 + 6 ≤ _)⟩)
    dsimp only [Pt.U, Pt.locs, Pt.cells, Pt.slots] at X25 l25 y25 z25 st25 hQ25
    subst l25 y25 z25
    obtain ⟨b25, k25, rfl, N25q, O25, Kc25, g_b25, gs_b25, F25_0⟩ := hQ25
    have N25 := Fr.app N13 N25q
    have K25 := K13.trans Kc25 (fun x hx => nomatch hx)
    have s_b25 := Nat.le_trans K13.1 gs_b25
    have lt_b25 := F25_0.lt
    obtain ⟨_, _, ⟨T26, L26, k26, n26⟩, -, X26, ⟨Lc26, hQ26, l26, y26, z26⟩, st26⟩ := Jvm.LawKit.callS X25 hx (y := Hi) hown (mvT hZ (Da hw 63 rfl)) (mvT hZ (Da hw 64 rfl)) (mvT hZ (Da hw 18 rfl)) (mvT hZ (Da hw 65 rfl)) (by decide) (backOf (W := 0) (Vu l Z a0 hw [] b25 k25 ((c0 >>> ((0 : Int32) &&& 31)).toInt8.toInt32) ((c0 >>> ((8 : Int32) &&& 31)).toInt8.toInt32) ((c1 >>> ((0 : Int32) &&& 31)).toInt8.toInt32) ((c1 >>> ((8 : Int32) &&& 31)).toInt8.toInt32) ((c2 >>> ((0 : Int32) &&& 31)).toInt8.toInt32) ((c2 >>> ((8 : Int32) &&& 31)).toInt8.toInt32) _ _ T25.heap n0 O25 hE F25_0 ) hZ (Da hw 65 rfl) (Da hw 18 rfl) (by decide) (by decide)) (g := (mkF m 32 #[.val (.ref t0), .val (.int 0), .val (.int 3), .val (.ref b10), .val (.int 1), .val (.ref b25)] [(.int 1), (.ref b25)])) rfl (by rw [hml]; rfl) (argsL := [(.ref b25), (.int 1)]) (rest := []) (lenOf Gm rfl) rfl (by show 2 * 0 + _ ≤ _; exact Nat.le_of_eq rfl) (hb hby Rd) (fun _ _ => ⟨rfl, rfl, (by decide : 2 + 0 ≤ _), (by decide : 9 + 0 ≤ _)⟩)
    dsimp only [Pt.U, Pt.locs, Pt.cells, Pt.slots] at X26 l26 y26 z26 st26 hQ26
    subst l26 y26 z26
    obtain ⟨rfl, N26q, hp26⟩ := hQ26
    have N26 := Fr.app N25 N26q
    have k27 : ∀ t, Ga p e below m T26 56 #[.val (.ref t0), .val (.int 0), .val (.int 3), .val (.ref b10), .val (.int 1), .val (.ref b25)] [(.ref b25)] t → Ra p e below m s₁ #[(.ref t0), (.int 0), (.int 3)] 6 t := by
      intro t k
      refine k23 t ?_
      refine XS.istore X13.here hx rfl (hb hby Ab) rfl (l' := #[.val (.ref t0), .val (.int 0), .val (.int 3), .val (.ref b10), .val (.int 1), .unset]) rfl ?_
      refine XS.iload X13.here hx rfl (hb hby Bb) rfl ?_
      refine XS.iloadN X13.here hx rfl (hb hby Db) rfl ?_
      refine XS.icmpNo X13.here hx rfl (hb hby Gb) rfl (feq (by decide : ¬ ((1 : Int32) = (3 : Int32)))).1 ?_
      refine XS.aloadN X13.here hx rfl (hb hby Gd) rfl rfl ?_
      refine XS.iloadN X13.here hx rfl (hb hby Hd) rfl ?_
      refine XS.iloadN X13.here hx rfl (hb hby Id) rfl ?_
      refine st25 _ ?_
      show Ga p e below m T25 26 #[.val (.ref t0), .val (.int 0), .val (.int 3), .val (.ref b10), .val (.int 1), .unset] [(.ref b25)] t
      refine XS.astore X25.here hx rfl (hb hby Ld) rfl rfl (l' := #[.val (.ref t0), .val (.int 0), .val (.int 3), .val (.ref b10), .val (.int 1), .val (.ref b25)]) rfl ?_
      refine XS.aload X25.here hx rfl (hb hby Md) rfl rfl ?_
      refine XS.iload X25.here hx rfl (hb hby Pd) rfl ?_
      refine st26 _ ?_
      refine XS.sipush X26.here hx rfl (hb hby Ud) ?_
      refine XS.icmpYes X26.here hx rfl (pc0 := 38) (pc' := 54) rfl (hb hby Vd) rfl (tlt (by rw [Hm lo1 hi1]; exact hb15)).2.2.1 (by decide) (by decide) ?_
      refine XS.aload X26.here hx rfl (hb hby Wd) rfl rfl ?_
      exact k
    obtain ⟨fs, hr, hrun, hended, hW, hsame⟩ := X26.leave (v := some (.ref b25)) (fun h => by rw [Bd.returns] at h; cases h)
    refine hNG ⟨_, _, k27 _ ?_, hrun, hended, _, _, rfl, ?_, ⟨_, rfl⟩, hW, hsame.mono (by decide) (by decide)⟩
    · exact retOut X26 hx (t := (.array .byte)) Bd.returns rfl (Or.inr (Or.inr (Or.inr (Or.inr ⟨rfl, rfl, rfl⟩)))) (hb hby Yd) hr
    · show Yo Z t0 k0 c0 c1 c2 Ba Aa h0 n0 _ T26.heap _
      rw [hp26]
      exact ⟨b25, (6 : Int32), _, _, rfl, N26, O25, K25, g_b25, s_b25, F25_0, Or.inr rfl⟩
  · have k28 : ∀ t, Ga p e below m T13 12 #[.val (.ref t0), .val (.int 0), .val (.int 3), .val (.ref b10), .unset, .unset] [(.int 2)] t → Ra p e below m s₁ #[(.ref t0), (.int 0), (.int 3)] 6 t := by
      intro t k
      refine k14 t ?_
      rw [hq]
      exact k
    have f29 := (f12.keep Kc13 (fun q => ne11 (List.mem_singleton.mp q)))
    obtain ⟨_, _, ⟨T30, L30, k30, n30⟩, -, X30, ⟨Lc30, hQ30, l30, y30, z30⟩, st30⟩ := Jvm.LawKit.callS X13 hx (y := Am) hown (mvT hZ (Da hw 47 rfl)) (mvT hZ (Da hw 48 rfl)) (mvT hZ (Da hw 18 rfl)) (mvT hZ (Da hw 49 rfl)) (by decide) (backOf (W := 0) (Rp l Z a0 hw [] t0 k0 c0 c1 c2 _ _ T13.heap n0 O13 hE f29 ) hZ (Da hw 49 rfl) (Da hw 18 rfl) (by decide) (by decide)) (g := (mkF m 23 #[.val (.ref t0), .val (.int 0), .val (.int 3), .val (.ref b10), .val (.int 2), .unset] [(.int 3), (.int 0), (.ref t0)])) rfl (by rw [hml]; rfl) (argsL := [(.ref t0), (.int 0), (.int 3)]) (rest := []) (lenOf Ii rfl) rfl (by show 2 * 0 + _ ≤ _; exact Nat.le_of_eq rfl) (hb hby Kd) (fun _ _ => ⟨rfl, rfl, (by decide : 1 + 1 ≤ _), (by decide : 3 + 6 ≤ _)⟩)
    dsimp only [Pt.U, Pt.locs, Pt.cells, Pt.slots] at X30 l30 y30 z30 st30 hQ30
    subst l30 y30 z30
    obtain ⟨b30, k30, rfl, N30q, O30, Kc30, g_b30, gs_b30, F30_0⟩ := hQ30
    have N30 := Fr.app N13 N30q
    have K30 := K13.trans Kc30 (fun x hx => nomatch hx)
    have s_b30 := Nat.le_trans K13.1 gs_b30
    have lt_b30 := F30_0.lt
    obtain ⟨_, _, ⟨T31, L31, k31, n31⟩, -, X31, ⟨Lc31, hQ31, l31, y31, z31⟩, st31⟩ := Jvm.LawKit.callS X30 hx (y := Hi) hown (mvT hZ (Da hw 63 rfl)) (mvT hZ (Da hw 64 rfl)) (mvT hZ (Da hw 18 rfl)) (mvT hZ (Da hw 65 rfl)) (by decide) (backOf (W := 0) (Yu l Z a0 hw [] b30 k30 ((c0 >>> ((0 : Int32) &&& 31)).toInt8.toInt32) ((c0 >>> ((8 : Int32) &&& 31)).toInt8.toInt32) ((c1 >>> ((0 : Int32) &&& 31)).toInt8.toInt32) ((c1 >>> ((8 : Int32) &&& 31)).toInt8.toInt32) ((c2 >>> ((0 : Int32) &&& 31)).toInt8.toInt32) ((c2 >>> ((8 : Int32) &&& 31)).toInt8.toInt32) _ _ T30.heap n0 O30 hE F30_0 ) hZ (Da hw 65 rfl) (Da hw 18 rfl) (by decide) (by decide)) (g := (mkF m 32 #[.val (.ref t0), .val (.int 0), .val (.int 3), .val (.ref b10), .val (.int 2), .val (.ref b30)] [(.int 2), (.ref b30)])) rfl (by rw [hml]; rfl) (argsL := [(.ref b30), (.int 2)]) (rest := []) (lenOf Gm rfl) rfl (by show 2 * 0 + _ ≤ _; exact Nat.le_of_eq rfl) (hb hby Rd) (fun _ _ => ⟨rfl, rfl, (by decide : 2 + 0 ≤ _), (by decide : 9 + 0 ≤ _)⟩)
    dsimp only [Pt.U, Pt.locs, Pt.cells, Pt.slots] at X31 l31 y31 z31 st31 hQ31
    subst l31 y31 z31
    obtain ⟨rfl, N31q, hp31⟩ := hQ31
    have N31 := Fr.app N30 N31q
    have k32 : ∀ t, Ga p e below m T31 56 #[.val (.ref t0), .val (.int 0), .val (.int 3), .val (.ref b10), .val (.int 2), .val (.ref b30)] [(.ref b30)] t → Ra p e below m s₁ #[(.ref t0), (.int 0), (.int 3)] 6 t := by
      intro t k
      refine k28 t ?_
      refine XS.istore X13.here hx rfl (hb hby Ab) rfl (l' := #[.val (.ref t0), .val (.int 0), .val (.int 3), .val (.ref b10), .val (.int 2), .unset]) rfl ?_
      refine XS.iload X13.here hx rfl (hb hby Bb) rfl ?_
      refine XS.iloadN X13.here hx rfl (hb hby Db) rfl ?_
      refine XS.icmpNo X13.here hx rfl (hb hby Gb) rfl (feq (by decide : ¬ ((2 : Int32) = (3 : Int32)))).1 ?_
      refine XS.aloadN X13.here hx rfl (hb hby Gd) rfl rfl ?_
      refine XS.iloadN X13.here hx rfl (hb hby Hd) rfl ?_
      refine XS.iloadN X13.here hx rfl (hb hby Id) rfl ?_
      refine st30 _ ?_
      show Ga p e below m T30 26 #[.val (.ref t0), .val (.int 0), .val (.int 3), .val (.ref b10), .val (.int 2), .unset] [(.ref b30)] t
      refine XS.astore X30.here hx rfl (hb hby Ld) rfl rfl (l' := #[.val (.ref t0), .val (.int 0), .val (.int 3), .val (.ref b10), .val (.int 2), .val (.ref b30)]) rfl ?_
      refine XS.aload X30.here hx rfl (hb hby Md) rfl rfl ?_
      refine XS.iload X30.here hx rfl (hb hby Pd) rfl ?_
      refine st31 _ ?_
      refine XS.sipush X31.here hx rfl (hb hby Ud) ?_
      refine XS.icmpYes X31.here hx rfl (pc0 := 38) (pc' := 54) rfl (hb hby Vd) rfl (tlt (by rw [Hm lo2 hi2]; exact hb15)).2.2.1 (by decide) (by decide) ?_
      refine XS.aload X31.here hx rfl (hb hby Wd) rfl rfl ?_
      exact k
    obtain ⟨fs, hr, hrun, hended, hW, hsame⟩ := X31.leave (v := some (.ref b30)) (fun h => by rw [Bd.returns] at h; cases h)
    refine hNG ⟨_, _, k32 _ ?_, hrun, hended, _, _, rfl, ?_, ⟨_, rfl⟩, hW, hsame.mono (by decide) (by decide)⟩
    · exact retOut X31 hx (t := (.array .byte)) Bd.returns rfl (Or.inr (Or.inr (Or.inr (Or.inr ⟨rfl, rfl, rfl⟩)))) (hb hby Yd) hr
    · show Yo Z t0 k0 c0 c1 c2 Ba Aa h0 n0 _ T31.heap _
      rw [hp31]
      exact ⟨b30, (6 : Int32), _, _, rfl, N31, O30, K30, g_b30, s_b30, F30_0, Or.inr rfl⟩
theorem Zu (m : MethodId) (x0 : Addr) (x1 : Int32)  : entryFrame m #[(.ref x0), (.int x1)] 2 = mkF m 0 #[.val (.ref x0), .val (.int x1)] [] := by first | (simp [entryFrame, mkF, argsToLocals, Value.category]; done) | rfl
def Ir (Z : State) (q0 : Addr) (k0 : ClassId) (vs : List Value) (Ba : Int32) (Aa : Value) (h0 : Heap) (n0 : Nat) (v : Option Value) (h : Heap) (L : List Loc) : Prop := v = some (.int 0) ∧ Fr n0 L ∧ h = h0
set_option maxRecDepth 65536 in
set_option maxHeartbeats 40000000 in
theorem Av (l : Launch) (Z : State) (a0 : Array Value) (hw : ∀ d ∈ tables_1, d.before a0 Z = true) (ws : List Jvm.Cond) (q0 : Addr) (k0 : ClassId) (vs : List Value) (Ba : Int32) (Aa : Value) (h0 : Heap) (n0 : Nat) (O0 : Old Z n0 h0) (hE : EV Z Ba Aa) (P0 : Arv Z h0 q0 k0 .byte (3 : Int32) vs (.int 0)) :
    MetFree l Ki (head1 (Jvm.Cond.code Ki jdk_52_method_15_code 2 (some .byte) :: ws) ({ frames := 0, cells := 0, slots := 0, locals := 0 } : Room)) (fun a U => a = #[(.ref q0), (.int 3)] ∧ Z.Warmed39 U.vm ∧ U.heap = h0) (fun _ _ _ _ _ => True) (fun _ U o U' => ∃ v L, o = .returned v ∧ Ir Z q0 k0 vs Ba Aa h0 n0 v U'.heap L ∧ FrameEnd U o U' L ({ frames := 0, cells := 0, slots := 0, locals := 0 } : Room).cells ({ frames := 0, cells := 0, slots := 0, locals := 0 } : Room).slots) := by
  refine MetFree.of_bodySF (plainFor_of_name Pa) hisR ?_
  intro p e s m args below meth c s₁ Bd hml0 hP hK
  obtain ⟨rfl, hZ, hh⟩ := hP
  have hx := Bd.exec
  have hby := Bd.bytes
  have hml : c.maxLocals = 2 := hml0
  have hown : s.vm.findClass "java/lang/StringUTF16" = some m.cls := findClass_of_methodNamed Bd.named
  have hnm := (name_of_methodNamed Bd.named Bd.method).1
  have X00 : Stand p l e ({ frames := 0, cells := 0, slots := 0, locals := 0 } : Room) s m #[(.ref q0), (.int 3)] below meth c s₁ [] 0 0 := Stand.of_body Bd
  have e00 : s₁.heap = h0 := by rw [← hh, Bd.state]; rfl
  have N00 := Fr.nil n0
  refine Classical.byContradiction fun hNG => ?_
  have K00 := Keep.refl h0 []
  have k00 : ∀ t, Ga p e below m s₁ 0 #[.val (.ref q0), .val (.int 3)] [] t → Ra p e below m s₁ #[(.ref q0), (.int 3)] 2 t := fun t k => castTop (Zu m q0 ((3 : Int32)) ) k
  obtain ⟨Ua, La, Va, Ma, Ha, Ia, Ka⟩ := (id hE : EV Z Ba Aa)
  obtain ⟨cl10, Ar10, q10, Sz10, Nn10, Hs10, Gf10⟩ := id P0
  have k11 : ∀ t, Ga p e below m s₁ 8 #[.val (.ref q0), .val (.int 3)] [(.int 0)] t → Ra p e below m s₁ #[(.ref q0), (.int 3)] 2 t := by
    intro t k
    refine k00 t ?_
    refine XS.iloadN X00.here hx rfl (hb hby Mh) rfl ?_
    refine XS.aloadN X00.here hx rfl (hb hby Ph) rfl rfl ?_
    refine X00.arraylength hx (by rw [e00]; exact Ar10.1) (State.isArrayOf_alike hZ.alike Ar10.2.1) (g := (mkF m 2 #[.val (.ref q0), .val (.int 3)] [(.ref q0), (.int 3)])) rfl rfl (hb hby Rh) _ ?_
    rw [len_of Sz10 Nn10]
    refine XS.isub X00.here hx rfl (hb hby Uh) rfl ?_
    show Ga p e below m s₁ 4 #[.val (.ref q0), .val (.int 3)] [(.int ((3 : Int32) - (3 : Int32)))] t
    rw [show ((3 : Int32) - (3 : Int32)) = (0 : Int32) from by decide]
    refine XS.bipush X00.here hx rfl (hb hby Vh) ?_
    refine XS.iushr X00.here hx rfl (hb hby Wh) rfl ?_
    show Ga p e below m s₁ 7 #[.val (.ref q0), .val (.int 3)] [(.int (((0 : Int32).toUInt32 >>> ((31 : Int32) &&& 31).toUInt32).toInt32))] t
    rw [show (((0 : Int32).toUInt32 >>> ((31 : Int32) &&& 31).toUInt32).toInt32) = (0 : Int32) from by decide]
    show Ga p e below m s₁ 7 #[.val (.ref q0), .val (.int 3)] [(.int 0)] t
    refine XS.i2b X00.here hx rfl (hb hby Yh) rfl ?_
    show Ga p e below m s₁ 8 #[.val (.ref q0), .val (.int 3)] [(.int ((0 : Int32).toInt8.toInt32))] t
    rw [show ((0 : Int32).toInt8.toInt32) = (0 : Int32) from by decide]
    exact k
  obtain ⟨fs, hr, hrun, hended, hW, hsame⟩ := X00.leave (v := some (.int 0)) (fun h => by rw [Bd.returns] at h; cases h)
  refine hNG ⟨_, _, k11 _ ?_, hrun, hended, _, _, rfl, ?_, ⟨_, rfl⟩, hW, hsame.mono (by decide) (by decide)⟩
  · exact retN X00 hx (t := .byte) Bd.returns (by simp) (hb hby Zh) (by first | exact hr | (rw [show nar .byte (0 : Int32) = (0 : Int32) from by first | rfl | exact Wi _ | decide]; exact hr))
  · show Ir Z q0 k0 vs Ba Aa h0 n0 _ s₁.heap _
    rw [e00]
    exact ⟨rfl, N00, rfl⟩
theorem Bv (m : MethodId) (x0 : Addr) (x1 : Int32)  : entryFrame m #[(.ref x0), (.int x1)] 2 = mkF m 0 #[.val (.ref x0), .val (.int x1)] [] := by first | (simp [entryFrame, mkF, argsToLocals, Value.category]; done) | rfl
def Kr (Z : State) (q0 : Addr) (k0 : ClassId) (vs : List Value) (Ba : Int32) (Aa : Value) (h0 : Heap) (n0 : Nat) (v : Option Value) (h : Heap) (L : List Loc) : Prop := v = some (.int 1) ∧ Fr n0 L ∧ h = h0
set_option maxRecDepth 65536 in
set_option maxHeartbeats 40000000 in
theorem Dv (l : Launch) (Z : State) (a0 : Array Value) (hw : ∀ d ∈ tables_1, d.before a0 Z = true) (ws : List Jvm.Cond) (q0 : Addr) (k0 : ClassId) (vs : List Value) (Ba : Int32) (Aa : Value) (h0 : Heap) (n0 : Nat) (O0 : Old Z n0 h0) (hE : EV Z Ba Aa) (P0 : Arv Z h0 q0 k0 .byte (6 : Int32) vs (.int 0)) :
    MetFree l Ki (head1 (Jvm.Cond.code Ki jdk_52_method_15_code 2 (some .byte) :: ws) ({ frames := 0, cells := 0, slots := 0, locals := 0 } : Room)) (fun a U => a = #[(.ref q0), (.int 3)] ∧ Z.Warmed39 U.vm ∧ U.heap = h0) (fun _ _ _ _ _ => True) (fun _ U o U' => ∃ v L, o = .returned v ∧ Kr Z q0 k0 vs Ba Aa h0 n0 v U'.heap L ∧ FrameEnd U o U' L ({ frames := 0, cells := 0, slots := 0, locals := 0 } : Room).cells ({ frames := 0, cells := 0, slots := 0, locals := 0 } : Room).slots) := by
  refine MetFree.of_bodySF (plainFor_of_name Pa) hisR ?_
  intro p e s m args below meth c s₁ Bd hml0 hP hK
  obtain ⟨rfl, hZ, hh⟩ := hP
  have hx := Bd.exec
  have hby := Bd.bytes
  have hml : c.maxLocals = 2 := hml0
  have hown : s.vm.findClass "java/lang/StringUTF16" = some m.cls := findClass_of_methodNamed Bd.named
  have hnm := (name_of_methodNamed Bd.named Bd.method).1
  have X00 : Stand p l e ({ frames := 0, cells := 0, slots := 0, locals := 0 } : Room) s m #[(.ref q0), (.int 3)] below meth c s₁ [] 0 0 := Stand.of_body Bd
  have e00 : s₁.heap = h0 := by rw [← hh, Bd.state]; rfl
  have N00 := Fr.nil n0
  refine Classical.byContradiction fun hNG => ?_
  have K00 := Keep.refl h0 []
  have k00 : ∀ t, Ga p e below m s₁ 0 #[.val (.ref q0), .val (.int 3)] [] t → Ra p e below m s₁ #[(.ref q0), (.int 3)] 2 t := fun t k => castTop (Bv m q0 ((3 : Int32)) ) k
  obtain ⟨Ua, La, Va, Ma, Ha, Ia, Ka⟩ := (id hE : EV Z Ba Aa)
  obtain ⟨cl10, Ar10, q10, Sz10, Nn10, Hs10, Gf10⟩ := id P0
  have k11 : ∀ t, Ga p e below m s₁ 8 #[.val (.ref q0), .val (.int 3)] [(.int 1)] t → Ra p e below m s₁ #[(.ref q0), (.int 3)] 2 t := by
    intro t k
    refine k00 t ?_
    refine XS.iloadN X00.here hx rfl (hb hby Mh) rfl ?_
    refine XS.aloadN X00.here hx rfl (hb hby Ph) rfl rfl ?_
    refine X00.arraylength hx (by rw [e00]; exact Ar10.1) (State.isArrayOf_alike hZ.alike Ar10.2.1) (g := (mkF m 2 #[.val (.ref q0), .val (.int 3)] [(.ref q0), (.int 3)])) rfl rfl (hb hby Rh) _ ?_
    rw [len_of Sz10 Nn10]
    refine XS.isub X00.here hx rfl (hb hby Uh) rfl ?_
    show Ga p e below m s₁ 4 #[.val (.ref q0), .val (.int 3)] [(.int ((3 : Int32) - (6 : Int32)))] t
    rw [show ((3 : Int32) - (6 : Int32)) = (-3 : Int32) from by decide]
    refine XS.bipush X00.here hx rfl (hb hby Vh) ?_
    refine XS.iushr X00.here hx rfl (hb hby Wh) rfl ?_
    show Ga p e below m s₁ 7 #[.val (.ref q0), .val (.int 3)] [(.int (((-3 : Int32).toUInt32 >>> ((31 : Int32) &&& 31).toUInt32).toInt32))] t
    rw [show (((-3 : Int32).toUInt32 >>> ((31 : Int32) &&& 31).toUInt32).toInt32) = (1 : Int32) from by decide]
    show Ga p e below m s₁ 7 #[.val (.ref q0), .val (.int 3)] [(.int 1)] t
    refine XS.i2b X00.here hx rfl (hb hby Yh) rfl ?_
    show Ga p e below m s₁ 8 #[.val (.ref q0), .val (.int 3)] [(.int ((1 : Int32).toInt8.toInt32))] t
    rw [show ((1 : Int32).toInt8.toInt32) = (1 : Int32) from by decide]
    exact k
  obtain ⟨fs, hr, hrun, hended, hW, hsame⟩ := X00.leave (v := some (.int 1)) (fun h => by rw [Bd.returns] at h; cases h)
  refine hNG ⟨_, _, k11 _ ?_, hrun, hended, _, _, rfl, ?_, ⟨_, rfl⟩, hW, hsame.mono (by decide) (by decide)⟩
  · exact retN X00 hx (t := .byte) Bd.returns (by simp) (hb hby Zh) (by first | exact hr | (rw [show nar .byte (1 : Int32) = (1 : Int32) from by first | rfl | exact Wi _ | decide]; exact hr))
  · show Kr Z q0 k0 vs Ba Aa h0 n0 _ s₁.heap _
    rw [e00]
    exact ⟨rfl, N00, rfl⟩
theorem Ky (m : MethodId) (x0 : Addr) (x1 : Addr) (x2 : Int32) (x3 : Int32)  : entryFrame m #[(.ref x0), (.ref x1), (.int x2), (.int x3), .null] 6 = mkF m 0 #[.val (.ref x0), .val (.ref x1), .val (.int x2), .val (.int x3), .val .null, .unset] [] := by first | (simp [entryFrame, mkF, argsToLocals, Value.category]; done) | rfl
def Aq (Z : State) (a1 : Addr) (t0 : Addr) (k0 : ClassId) (c0 : Int32) (c1 : Int32) (c2 : Int32) (Ba : Int32) (Aa : Value) (h0 : Heap) (n0 : Nat) (v : Option Value) (h : Heap) (L : List Loc) : Prop := ∃ (b : Addr) (z : Int32) (k : ClassId) (vs : List Value), v = none ∧ Fr n0 L ∧ Old Z n0 h ∧ Keep h0 h [a1] ∧ n0 ≤ b ∧ h0.size ≤ b ∧ Exa Z h a1 "java/lang/String" ∧ Fld Z h a1 "java/lang/String" "value" "[B" (.ref b) ∧ Arv Z h b k .byte z vs (.int 0) ∧ (¬ (z = (0 : Int32)))
set_option maxRecDepth 65536 in
set_option maxHeartbeats 40000000 in
theorem Ly (l : Launch) (Z : State) (a0 : Array Value) (hw : ∀ d ∈ tables_1, d.before a0 Z = true) (ws : List Jvm.Cond) (a1 : Addr) (t0 : Addr) (k0 : ClassId) (c0 : Int32) (c1 : Int32) (c2 : Int32) (Ba : Int32) (Aa : Value) (h0 : Heap) (n0 : Nat) (O0 : Old Z n0 h0) (hE : EV Z Ba Aa) (P0 : Arv Z h0 t0 k0 .char (3 : Int32) [(.int c0), (.int c1), (.int c2)] (.int 0)) (P1 : Exa Z h0 a1 "java/lang/String") (P2 : Fld Z h0 a1 "java/lang/String" "value" "[B" .null) (P3 : Fld Z h0 a1 "java/lang/String" "coder" "B" (.int 0)) (g_a1 : n0 ≤ a1) (lo0 : ¬ c0 < 0) (hi0 : ¬ (65535 : Int32) < c0) (lo1 : ¬ c1 < 0) (hi1 : ¬ (65535 : Int32) < c1) (lo2 : ¬ c2 < 0) (hi2 : ¬ (65535 : Int32) < c2) :
    MetFree l Um (head1 (Jvm.Cond.code Um jdk_42_method_149_code 6 none :: ws) ({ frames := 4, cells := 2, slots := 9, locals := 57 } : Room)) (fun a U => a = #[(.ref a1), (.ref t0), (.int 0), (.int 3), .null] ∧ Z.Warmed39 U.vm ∧ U.heap = h0) (fun _ _ _ _ _ => True) (fun _ U o U' => ∃ v L, o = .returned v ∧ Aq Z a1 t0 k0 c0 c1 c2 Ba Aa h0 n0 v U'.heap L ∧ FrameEnd U o U' L ({ frames := 4, cells := 2, slots := 9, locals := 57 } : Room).cells ({ frames := 4, cells := 2, slots := 9, locals := 57 } : Room).slots) := by
  refine MetFree.of_bodySF (plainFor_of_name Bi) hisR ?_
  intro p e s m args below meth c s₁ Bd hml0 hP hK
  obtain ⟨rfl, hZ, hh⟩ := hP
  have hx := Bd.exec
  have hby := Bd.bytes
  have hml : c.maxLocals = 6 := hml0
  have hown : s.vm.findClass "java/lang/String" = some m.cls := findClass_of_methodNamed Bd.named
  have hnm := (name_of_methodNamed Bd.named Bd.method).1
  have X00 : Stand p l e ({ frames := 4, cells := 2, slots := 9, locals := 57 } : Room) s m #[(.ref a1), (.ref t0), (.int 0), (.int 3), .null] below meth c s₁ [] 0 0 := Stand.of_body Bd
  have e00 : s₁.heap = h0 := by rw [← hh, Bd.state]; rfl
  have N00 := Fr.nil n0
  refine Classical.byContradiction fun hNG => ?_
  have K00 := Keep.refl h0 [a1]
  have k00 : ∀ t, Ga p e below m s₁ 0 #[.val (.ref a1), .val (.ref t0), .val (.int 0), .val (.int 3), .val .null, .unset] [] t → Ra p e below m s₁ #[(.ref a1), (.ref t0), (.int 0), (.int 3), .null] 6 t := fun t k => castTop (Ky m a1 t0 ((0 : Int32)) ((3 : Int32)) ) k
  obtain ⟨Ua, La, Va, Ma, Ha, Ia, Ka⟩ := (id hE : EV Z Ba Aa)
  obtain ⟨T10, X10, e10, st10⟩ := initO X00 hx hZ hown (Da hw 12 rfl) (Da hw 13 rfl) (Da hw 14 rfl) e00 (g := (mkF m 1 #[.val (.ref a1), .val (.ref t0), .val (.int 0), .val (.int 3), .val .null, .unset] [(.ref a1)])) rfl (by rw [hml]; rfl) rfl (hb hby Kj) (by decide) (W := 0) (by show 2 * 0 + _ ≤ _; exact Nat.le_of_eq rfl) (by decide)
  obtain ⟨T11, X11, e11, st11⟩ := getS2 X10 hx hZ hown (host := "") (Or.inl (Da hw 15 rfl)) Via.refl e10 (Ua.ext O0.2) (g := (mkF m 27 #[.val (.ref a1), .val (.ref t0), .val (.int 0), .val (.int 3), .val .null, .unset] [])) rfl (hb hby Li)
  obtain ⟨_, _, ⟨T12, L12, k12, n12⟩, -, X12, ⟨Lc12, hQ12, l12, y12, z12⟩, st12⟩ := Jvm.LawKit.callS X11 hx (y := Rm) hown (mvT hZ (Da hw 16 rfl)) (mvT hZ (Da hw 17 rfl)) (mvT hZ (Da hw 18 rfl)) (mvT hZ (Da hw 19 rfl)) (by decide) (backOf (W := 0) (Iy l Z a0 hw [] t0 k0 c0 c1 c2 _ _ h0 n0 O0 hE P0 lo0 hi0 lo1 hi1 lo2 hi2) hZ (Da hw 19 rfl) (Da hw 18 rfl) (by decide) (by decide)) (g := (mkF m 36 #[.val (.ref a1), .val (.ref t0), .val (.int 0), .val (.int 3), .val .null, .unset] [(.int 3), (.int 0), (.ref t0)])) rfl (by rw [hml]; rfl) (argsL := [(.ref t0), (.int 0), (.int 3)]) (rest := []) (lenOf Ii rfl) rfl (by show 2 * 0 + _ ≤ _; exact Nat.le_of_eq rfl) (hb hby Vi) (fun _ _ => ⟨rfl, e11, (by decide : 0 + 2 ≤ _), (by decide : 0 + 9 ≤ _)⟩)
  dsimp only [Pt.U, Pt.locs, Pt.cells, Pt.slots] at X12 l12 y12 z12 st12 hQ12
  subst l12 y12 z12
  obtain ⟨b12, z12, k12, vs12, rfl, N12q, O12, Kc12, g_b12, gs_b12, F12_0, D12_0⟩ := hQ12
  have N12 := Fr.app N00 N12q
  have K12 := K00.trans Kc12 (fun x hx => nomatch hx)
  have s_b12 := Nat.le_trans K00.1 gs_b12
  have lt_b12 := F12_0.lt
  have k13 : ∀ t, Ga p e below m T12 39 #[.val (.ref a1), .val (.ref t0), .val (.int 0), .val (.int 3), .val .null, .unset] [(.ref b12)] t → Ra p e below m s₁ #[(.ref a1), (.ref t0), (.int 0), (.int 3), .null] 6 t := by
    intro t k
    refine k00 t ?_
    refine XS.aloadN X00.here hx rfl (hb hby Ij) rfl rfl ?_
    refine st10 _ ?_
    refine XS.iloadN X10.here hx rfl (hb hby Lj) rfl ?_
    refine XS.ifYes X10.here hx rfl (pc0 := 5) (pc' := 27) rfl (hb hby Mj) rfl ((if0 _ _).trans (feq (by decide : ¬ ((3 : Int32) = (0 : Int32)))).2) (by decide) (by decide) ?_
    refine st11 _ ?_
    refine XS.ifNo X11.here hx rfl (hb hby Mi) rfl ((if0 _ _).trans (feq La).1) ?_
    refine XS.aloadN X11.here hx rfl (hb hby Pi) rfl rfl ?_
    refine XS.iloadN X11.here hx rfl (hb hby Ri) rfl ?_
    show Ga p e below m T11 35 #[.val (.ref a1), .val (.ref t0), .val (.int 0), .val (.int 3), .val .null, .unset] [(.int 0), (.ref t0)] t
    refine XS.iloadN X11.here hx rfl (hb hby Ui) rfl ?_
    refine st12 _ ?_
    exact k
  rcases D12_0 with hq | hq
  · subst hq
    obtain ⟨_, _, ⟨T14, L14, k14, n14⟩, -, X14, ⟨Lc14, hQ14, l14, y14, z14⟩, st14⟩ := Jvm.LawKit.callS X12 hx (y := Ki) hown (mvT hZ (Da hw 24 rfl)) (mvT hZ (Da hw 25 rfl)) (mvT hZ (Da hw 18 rfl)) (mvT hZ (Da hw 26 rfl)) (by decide) (backOf (W := 1) (Av l Z a0 hw [] b12 k12 vs12 _ _ T12.heap n0 O12 hE F12_0 ) hZ (Da hw 26 rfl) (Da hw 18 rfl) (by decide) (by decide)) (g := (mkF m 45 #[.val (.ref a1), .val (.ref t0), .val (.int 0), .val (.int 3), .val .null, .val (.ref b12)] [(.int 3), (.ref b12), (.ref a1)])) rfl (by rw [hml]; rfl) (argsL := [(.ref b12), (.int 3)]) (rest := [(.ref a1)]) (lenOf Im rfl) rfl (by show 2 * 0 + _ ≤ _; exact Nat.le_of_eq rfl) (hb hby Dh) (fun _ _ => ⟨rfl, rfl, (by decide : 2 + 0 ≤ _), (by decide : 9 + 0 ≤ _)⟩)
    dsimp only [Pt.U, Pt.locs, Pt.cells, Pt.slots] at X14 l14 y14 z14 st14 hQ14
    subst l14 y14 z14
    obtain ⟨rfl, N14q, hp14⟩ := hQ14
    have N14 := Fr.app N12 N14q
    have f15 := (P1.keep Kc12)
    have f16 := (P3.keep Kc12 List.not_mem_nil)
    obtain ⟨T17, h17, X17, e17, W17, st17⟩ := putFN X14 hx hZ hown (Da hw 27 rfl) Via.refl hp14 f16 f15 (Or.inr ⟨(Da hw 28 rfl), rfl, hnm⟩) (Da hw 3 rfl) (ty := .byte) (v' := .int (0 : Int32)) (by decide) rfl (by decide) (g := (mkF m 48 #[.val (.ref a1), .val (.ref t0), .val (.int 0), .val (.int 3), .val .null, .val (.ref b12)] [(.int 0), (.ref a1)])) rfl rfl (hb hby Gh)
    have F17_coder := f16.same W17
    have N17 := Fr.snoc X17 N14 g_a1
    have O17 := O12.wr W17 g_a1
    have K17 := K12.wr W17 (Or.inl (List.mem_of_getElem? (i := 0) rfl))
    have f18 := (f15.wr W17)
    have f19 := ((P2.keep Kc12 List.not_mem_nil).other W17 (Or.inr (slot_ne (Or.inr (Da hw 30 rfl)) (Or.inr (Da hw 28 rfl)) (by decide) (t := (.array .byte)) (t' := .byte) (by decide) (by decide))))
    obtain ⟨T20, h20, X20, e20, W20, st20⟩ := putF X17 hx hZ hown (host := "") (Or.inl (Da hw 29 rfl)) Via.refl e17 f19 f18 (Or.inr ⟨(Da hw 30 rfl), rfl, hnm⟩) (Da hw 3 rfl) (ty := (.array .byte)) (by decide) rfl rfl (g := (mkF m 54 #[.val (.ref a1), .val (.ref t0), .val (.int 0), .val (.int 3), .val .null, .val (.ref b12)] [(.ref b12), (.ref a1)])) rfl rfl (hb hby Kh)
    have F20_value := f19.same W20
    have N20 := Fr.snoc X20 N17 g_a1
    have O20 := O17.wr W20 g_a1
    have K20 := K17.wr W20 (Or.inl (List.mem_of_getElem? (i := 0) rfl))
    have k21 : ∀ t, Ga p e below m T20 57 #[.val (.ref a1), .val (.ref t0), .val (.int 0), .val (.int 3), .val .null, .val (.ref b12)] [] t → Ra p e below m s₁ #[(.ref a1), (.ref t0), (.int 0), (.int 3), .null] 6 t := by
      intro t k
      refine k13 t ?_
      refine XS.astore X12.here hx rfl (hb hby Yg) rfl rfl (l' := #[.val (.ref a1), .val (.ref t0), .val (.int 0), .val (.int 3), .val .null, .val (.ref b12)]) rfl ?_
      refine XS.aloadN X12.here hx rfl (hb hby Zg) rfl rfl ?_
      refine XS.aload X12.here hx rfl (hb hby Ah) rfl rfl ?_
      refine XS.iloadN X12.here hx rfl (hb hby Bh) rfl ?_
      refine st14 _ ?_
      refine st17 _ ?_
      refine XS.aloadN X17.here hx rfl (hb hby Hh) rfl rfl ?_
      refine XS.aload X17.here hx rfl (hb hby Ih) rfl rfl ?_
      show Ga p e below m T17 54 #[.val (.ref a1), .val (.ref t0), .val (.int 0), .val (.int 3), .val .null, .val (.ref b12)] [(.ref b12), (.ref a1)] t
      refine st20 _ ?_
      exact k
    have f22 := (f18.wr W20)
    have ne23 : ¬ (b12 = a1) := (Ne.symm (Nat.ne_of_lt (Nat.lt_of_lt_of_le P1.lt gs_b12)))
    have f24 := ((F12_0.other W17 ne23).other W20 ne23)
    obtain ⟨fs, hr, hrun, hended, hW, hsame⟩ := X20.leave (v := none) (fun _ => rfl)
    refine hNG ⟨_, _, k21 _ ?_, hrun, hended, _, _, rfl, ?_, ⟨_, rfl⟩, hW, hsame.mono (by decide) (by decide)⟩
    · exact X20.returnOut hx Bd.returns (hb hby Lh) hr
    · show Aq Z a1 t0 k0 c0 c1 c2 Ba Aa h0 n0 _ T20.heap _
      rw [e20]
      exact ⟨b12, (3 : Int32), _, _, rfl, N20, O20, K20, g_b12, s_b12, f22, F20_value, f24, (by decide)⟩
  · subst hq
    obtain ⟨_, _, ⟨T25, L25, k25, n25⟩, -, X25, ⟨Lc25, hQ25, l25, y25, z25⟩, st25⟩ := Jvm.LawKit.callS X12 hx (y := Ki) hown (mvT hZ (Da hw 24 rfl)) (mvT hZ (Da hw 25 rfl)) (mvT hZ (Da hw 18 rfl)) (mvT hZ (Da hw 26 rfl)) (by decide) (backOf (W := 1) (Dv l Z a0 hw [] b12 k12 vs12 _ _ T12.heap n0 O12 hE F12_0 ) hZ (Da hw 26 rfl) (Da hw 18 rfl) (by decide) (by decide)) (g := (mkF m 45 #[.val (.ref a1), .val (.ref t0), .val (.int 0), .val (.int 3), .val .null, .val (.ref b12)] [(.int 3), (.ref b12), (.ref a1)])) rfl (by rw [hml]; rfl) (argsL := [(.ref b12), (.int 3)]) (rest := [(.ref a1)]) (lenOf Im rfl) rfl (by show 2 * 0 + _ ≤ _; exact Nat.le_of_eq rfl) (hb hby Dh) (fun _ _ => ⟨rfl, rfl, (by decide : 2 + 0 ≤ _), (by decide : 9 + 0 ≤ _)⟩)
    dsimp only [Pt.U, Pt.locs, Pt.cells, Pt.slots] at X25 l25 y25 z25 st25 hQ25
    subst l25 y25 z25
    obtain ⟨rfl, N25q, hp25⟩ := hQ25
    have N25 := Fr.app N12 N25q
    have f26 := (P1.keep Kc12)
    have f27 := (P3.keep Kc12 List.not_mem_nil)
    obtain ⟨T28, h28, X28, e28, W28, st28⟩ := putFN X25 hx hZ hown (Da hw 27 rfl) Via.refl hp25 f27 f26 (Or.inr ⟨(Da hw 28 rfl), rfl, hnm⟩) (Da hw 3 rfl) (ty := .byte) (v' := .int (1 : Int32)) (by decide) rfl (by decide) (g := (mkF m 48 #[.val (.ref a1), .val (.ref t0), .val (.int 0), .val (.int 3), .val .null, .val (.ref b12)] [(.int 1), (.ref a1)])) rfl rfl (hb hby Gh)
    have F28_coder := f27.same W28
    have N28 := Fr.snoc X28 N25 g_a1
    have O28 := O12.wr W28 g_a1
    have K28 := K12.wr W28 (Or.inl (List.mem_of_getElem? (i := 0) rfl))
    have f29 := (f26.wr W28)
    have f30 := ((P2.keep Kc12 List.not_mem_nil).other W28 (Or.inr (slot_ne (Or.inr (Da hw 30 rfl)) (Or.inr (Da hw 28 rfl)) (by decide) (t := (.array .byte)) (t' := .byte) (by decide) (by decide))))
    obtain ⟨T31, h31, X31, e31, W31, st31⟩ := putF X28 hx hZ hown (host := "") (Or.inl (Da hw 29 rfl)) Via.refl e28 f30 f29 (Or.inr ⟨(Da hw 30 rfl), rfl, hnm⟩) (Da hw 3 rfl) (ty := (.array .byte)) (by decide) rfl rfl (g := (mkF m 54 #[.val (.ref a1), .val (.ref t0), .val (.int 0), .val (.int 3), .val .null, .val (.ref b12)] [(.ref b12), (.ref a1)])) rfl rfl (hb hby Kh)
    have F31_value := f30.same W31
    have N31 := Fr.snoc X31 N28 g_a1
    have O31 := O28.wr W31 g_a1
    have K31 := K28.wr W31 (Or.inl (List.mem_of_getElem? (i := 0) rfl))
    have k32 : ∀ t, Ga p e below m T31 57 #[.val (.ref a1), .val (.ref t0), .val (.int 0), .val (.int 3), .val .null, .val (.ref b12)] [] t → Ra p e below m s₁ #[(.ref a1), (.ref t0), (.int 0), (.int 3), .null] 6 t := by
      intro t k
      refine k13 t ?_
      refine XS.astore X12.here hx rfl (hb hby Yg) rfl rfl (l' := #[.val (.ref a1), .val (.ref t0), .val (.int 0), .val (.int 3), .val .null, .val (.ref b12)]) rfl ?_
      refine XS.aloadN X12.here hx rfl (hb hby Zg) rfl rfl ?_
      refine XS.aload X12.here hx rfl (hb hby Ah) rfl rfl ?_
      refine XS.iloadN X12.here hx rfl (hb hby Bh) rfl ?_
      refine st25 _ ?_
      refine st28 _ ?_
      refine XS.aloadN X28.here hx rfl (hb hby Hh) rfl rfl ?_
      refine XS.aload X28.here hx rfl (hb hby Ih) rfl rfl ?_
      show Ga p e below m T28 54 #[.val (.ref a1), .val (.ref t0), .val (.int 0), .val (.int 3), .val .null, .val (.ref b12)] [(.ref b12), (.ref a1)] t
      refine st31 _ ?_
      exact k
    have f33 := (f29.wr W31)
    have ne34 : ¬ (b12 = a1) := (Ne.symm (Nat.ne_of_lt (Nat.lt_of_lt_of_le P1.lt gs_b12)))
    have f35 := ((F12_0.other W28 ne34).other W31 ne34)
    obtain ⟨fs, hr, hrun, hended, hW, hsame⟩ := X31.leave (v := none) (fun _ => rfl)
    refine hNG ⟨_, _, k32 _ ?_, hrun, hended, _, _, rfl, ?_, ⟨_, rfl⟩, hW, hsame.mono (by decide) (by decide)⟩
    · exact X31.returnOut hx Bd.returns (hb hby Lh) hr
    · show Aq Z a1 t0 k0 c0 c1 c2 Ba Aa h0 n0 _ T31.heap _
      rw [e31]
      exact ⟨b12, (6 : Int32), _, _, rfl, N31, O31, K31, g_b12, s_b12, f33, F31_value, f35, (by decide)⟩
theorem My (m : MethodId) (x0 : Addr) (x1 : Addr)  : entryFrame m #[(.ref x0), (.ref x1)] 2 = mkF m 0 #[.val (.ref x0), .val (.ref x1)] [] := by first | (simp [entryFrame, mkF, argsToLocals, Value.category]; done) | rfl
def Ps (Z : State) (a1 : Addr) (t0 : Addr) (k0 : ClassId) (c0 : Int32) (c1 : Int32) (c2 : Int32) (Ba : Int32) (Aa : Value) (h0 : Heap) (n0 : Nat) (v : Option Value) (h : Heap) (L : List Loc) : Prop := ∃ (b : Addr) (z : Int32) (k : ClassId) (vs : List Value), v = none ∧ Fr n0 L ∧ Old Z n0 h ∧ Keep h0 h [a1] ∧ n0 ≤ b ∧ h0.size ≤ b ∧ Exa Z h a1 "java/lang/String" ∧ Fld Z h a1 "java/lang/String" "value" "[B" (.ref b) ∧ Arv Z h b k .byte z vs (.int 0) ∧ (¬ (z = (0 : Int32)))
set_option maxRecDepth 65536 in
set_option maxHeartbeats 40000000 in
theorem Py (l : Launch) (Z : State) (a0 : Array Value) (hw : ∀ d ∈ tables_1, d.before a0 Z = true) (ws : List Jvm.Cond) (a1 : Addr) (t0 : Addr) (k0 : ClassId) (c0 : Int32) (c1 : Int32) (c2 : Int32) (Ba : Int32) (Aa : Value) (h0 : Heap) (n0 : Nat) (O0 : Old Z n0 h0) (hE : EV Z Ba Aa) (P0 : Arv Z h0 t0 k0 .char (3 : Int32) [(.int c0), (.int c1), (.int c2)] (.int 0)) (P1 : Exa Z h0 a1 "java/lang/String") (P2 : Fld Z h0 a1 "java/lang/String" "value" "[B" .null) (P3 : Fld Z h0 a1 "java/lang/String" "coder" "B" (.int 0)) (g_a1 : n0 ≤ a1) (lo0 : ¬ c0 < 0) (hi0 : ¬ (65535 : Int32) < c0) (lo1 : ¬ c1 < 0) (hi1 : ¬ (65535 : Int32) < c1) (lo2 : ¬ c2 < 0) (hi2 : ¬ (65535 : Int32) < c2) :
    MetFree l Wm (head1 (Jvm.Cond.code Wm jdk_42_method_3_code 2 none :: ws) ({ frames := 5, cells := 2, slots := 9, locals := 74 } : Room)) (fun a U => a = #[(.ref a1), (.ref t0)] ∧ Z.Warmed39 U.vm ∧ U.heap = h0) (fun _ _ _ _ _ => True) (fun _ U o U' => ∃ v L, o = .returned v ∧ Ps Z a1 t0 k0 c0 c1 c2 Ba Aa h0 n0 v U'.heap L ∧ FrameEnd U o U' L ({ frames := 5, cells := 2, slots := 9, locals := 74 } : Room).cells ({ frames := 5, cells := 2, slots := 9, locals := 74 } : Room).slots) := by
  refine MetFree.of_bodySF (plainFor_of_name Bi) hisR ?_
  intro p e s m args below meth c s₁ Bd hml0 hP hK
  obtain ⟨rfl, hZ, hh⟩ := hP
  have hx := Bd.exec
  have hby := Bd.bytes
  have hml : c.maxLocals = 2 := hml0
  have hown : s.vm.findClass "java/lang/String" = some m.cls := findClass_of_methodNamed Bd.named
  have hnm := (name_of_methodNamed Bd.named Bd.method).1
  have X00 : Stand p l e ({ frames := 5, cells := 2, slots := 9, locals := 74 } : Room) s m #[(.ref a1), (.ref t0)] below meth c s₁ [] 0 0 := Stand.of_body Bd
  have e00 : s₁.heap = h0 := by rw [← hh, Bd.state]; rfl
  have N00 := Fr.nil n0
  refine Classical.byContradiction fun hNG => ?_
  have K00 := Keep.refl h0 [a1]
  have k00 : ∀ t, Ga p e below m s₁ 0 #[.val (.ref a1), .val (.ref t0)] [] t → Ra p e below m s₁ #[(.ref a1), (.ref t0)] 2 t := fun t k => castTop (My m a1 t0 ) k
  obtain ⟨Ua, La, Va, Ma, Ha, Ia, Ka⟩ := (id hE : EV Z Ba Aa)
  obtain ⟨cl10, Ar10, q10, Sz10, Nn10, Hs10, Gf10⟩ := id P0
  obtain ⟨_, _, ⟨T11, L11, k11, n11⟩, -, X11, ⟨Lc11, hQ11, l11, y11, z11⟩, st11⟩ := X00.specialBack hx (y := Um) rfl hown (mvT hZ (Da hw 8 rfl)) (mvT hZ (Da hw 9 rfl)) (mvT hZ (Da hw 11 rfl)) (by decide) (backOf (W := 0) (Ly l Z a0 hw [] a1 t0 k0 c0 c1 c2 _ _ h0 n0 O0 hE P0 P1 P2 P3 g_a1 lo0 hi0 lo1 hi1 lo2 hi2) hZ (Da hw 11 rfl) (Da hw 4 rfl) (by decide) (by decide)) (g := (mkF m 6 #[.val (.ref a1), .val (.ref t0)] [.null, (.int 3), (.int 0), (.ref t0), (.ref a1)])) rfl (by rw [hml]; rfl) (Steps.refl _) (a := a1) (argsL := [(.ref t0), (.int 0), (.int 3), .null]) (rest := []) (lenOf Pj rfl) rfl (by show 2 * 0 + _ ≤ _; exact Nat.le_of_eq rfl) (hb hby Wl) (fun _ _ => ⟨rfl, e00, (by decide : 0 + 2 ≤ _), (by decide : 0 + 9 ≤ _)⟩)
  dsimp only [Pt.U, Pt.locs, Pt.cells, Pt.slots] at X11 l11 y11 z11 st11 hQ11
  subst l11 y11 z11
  obtain ⟨b11, z11, k11, vs11, rfl, N11q, O11, Kc11, g_b11, gs_b11, F11_0, F11_1, F11_2, D11_0⟩ := hQ11
  have N11 := Fr.app N00 N11q
  have K11 := K00.trans Kc11 (allS (Or.inl (List.mem_of_getElem? (i := 0) rfl)) all0)
  have s_b11 := Nat.le_trans K00.1 gs_b11
  have lt_b11 := F11_2.lt
  have k12 : ∀ t, Ga p e below m T11 9 #[.val (.ref a1), .val (.ref t0)] [] t → Ra p e below m s₁ #[(.ref a1), (.ref t0)] 2 t := by
    intro t k
    refine k00 t ?_
    refine XS.aloadN X00.here hx rfl (hb hby Ll) rfl rfl ?_
    refine XS.aloadN X00.here hx rfl (hb hby Ml) rfl rfl ?_
    refine XS.iconst X00.here hx rfl (hb hby Pl) ?_
    refine XS.aloadN X00.here hx rfl (hb hby Rl) rfl rfl ?_
    refine X00.arraylength hx (by rw [e00]; exact Ar10.1) (State.isArrayOf_alike hZ.alike Ar10.2.1) (g := (mkF m 4 #[.val (.ref a1), .val (.ref t0)] [(.ref t0), (.int 0), (.ref t0), (.ref a1)])) rfl rfl (hb hby Ul) _ ?_
    rw [len_of Sz10 Nn10]
    refine XS.aconstNull X00.here hx rfl (hb hby Vl) ?_
    refine st11.trans ?_
    exact k
  obtain ⟨fs, hr, hrun, hended, hW, hsame⟩ := X11.leave (v := none) (fun _ => rfl)
  refine hNG ⟨_, _, k12 _ ?_, hrun, hended, _, _, rfl, ?_, ⟨_, rfl⟩, hW, hsame.mono (by decide) (by decide)⟩
  · exact X11.returnOut hx Bd.returns (hb hby Yl) hr
  · show Ps Z a1 t0 k0 c0 c1 c2 Ba Aa h0 n0 _ T11.heap _
    exact ⟨b11, z11, _, _, rfl, N11, O11, K11, g_b11, s_b11, F11_0, F11_1, F11_2, D11_0⟩
theorem Ry (m : MethodId) (x0 : Addr) (x1 : Int32) (x2 : Addr) (x3 : Int32) (x4 : Int32)  : entryFrame m #[(.ref x0), (.int x1), (.ref x2), (.int x3), (.int x4)] 7 = mkF m 0 #[.val (.ref x0), .val (.int x1), .val (.ref x2), .val (.int x3), .val (.int x4), .unset, .unset] [] := by first | (simp [entryFrame, mkF, argsToLocals, Value.category]; done) | rfl
def Ho (Z : State) (t0 : Addr) (t1 : Addr) (k0 : ClassId) (k1 : ClassId) (c0 : Int32) (c1 : Int32) (c2 : Int32) (c3 : Int32) (Ba : Int32) (Aa : Value) (h0 : Heap) (n0 : Nat) (v : Option Value) (h : Heap) (L : List Loc) : Prop := ∃ (kk : Int32) (vs : List Value), v = some (.int kk) ∧ Fr n0 L ∧ Old Z n0 h ∧ Keep h0 h [t1] ∧ Arv Z h t1 k1 .byte (4 : Int32) vs (.int 0) ∧ (kk = (4 : Int32) ∨ (kk = (0 : Int32) ∧ (255 : Int32) < c0) ∨ (kk = (1 : Int32) ∧ (255 : Int32) < c1) ∨ (kk = (2 : Int32) ∧ (255 : Int32) < c2) ∨ (kk = (3 : Int32) ∧ (255 : Int32) < c3))
set_option maxRecDepth 65536 in
set_option maxHeartbeats 40000000 in
theorem Uy (l : Launch) (Z : State) (a0 : Array Value) (hw : ∀ d ∈ tables_1, d.before a0 Z = true) (ws : List Jvm.Cond) (t0 : Addr) (t1 : Addr) (k0 : ClassId) (k1 : ClassId) (c0 : Int32) (c1 : Int32) (c2 : Int32) (c3 : Int32) (Ba : Int32) (Aa : Value) (h0 : Heap) (n0 : Nat) (O0 : Old Z n0 h0) (hE : EV Z Ba Aa) (P0 : Arv Z h0 t0 k0 .char (4 : Int32) [(.int c0), (.int c1), (.int c2), (.int c3)] (.int 0)) (P1 : Arv Z h0 t1 k1 .byte (4 : Int32) [(.int 0), (.int 0), (.int 0), (.int 0)] (.int 0)) (g_t1 : n0 ≤ t1) (nt : ¬ (t0 = t1)) :
    MetFree l Lm (head1 (Jvm.Cond.code Lm jdk_52_method_21_code 7 (some .int) :: ws) ({ frames := 0, cells := 0, slots := 0, locals := 0 } : Room)) (fun a U => a = #[(.ref t0), (.int 0), (.ref t1), (.int 0), (.int 4)] ∧ Z.Warmed39 U.vm ∧ U.heap = h0) (fun _ _ _ _ _ => True) (fun _ U o U' => ∃ v L, o = .returned v ∧ Ho Z t0 t1 k0 k1 c0 c1 c2 c3 Ba Aa h0 n0 v U'.heap L ∧ FrameEnd U o U' L ({ frames := 0, cells := 0, slots := 0, locals := 0 } : Room).cells ({ frames := 0, cells := 0, slots := 0, locals := 0 } : Room).slots) := by
  refine MetFree.of_bodySF (plainFor_of_name Pa) hisR ?_
  intro p e s m args below meth c s₁ Bd hml0 hP hK
  obtain ⟨rfl, hZ, hh⟩ := hP
  have hx := Bd.exec
  have hby := Bd.bytes
  have hml : c.maxLocals = 7 := hml0
  have hown : s.vm.findClass "java/lang/StringUTF16" = some m.cls := findClass_of_methodNamed Bd.named
  have hnm := (name_of_methodNamed Bd.named Bd.method).1
  have X00 : Stand p l e ({ frames := 0, cells := 0, slots := 0, locals := 0 } : Room) s m #[(.ref t0), (.int 0), (.ref t1), (.int 0), (.int 4)] below meth c s₁ [] 0 0 := Stand.of_body Bd
  have e00 : s₁.heap = h0 := by rw [← hh, Bd.state]; rfl
  have N00 := Fr.nil n0
  refine Classical.byContradiction fun hNG => ?_
  have K00 := Keep.refl h0 [t1]
  have k00 : ∀ t, Ga p e below m s₁ 0 #[.val (.ref t0), .val (.int 0), .val (.ref t1), .val (.int 0), .val (.int 4), .unset, .unset] [] t → Ra p e below m s₁ #[(.ref t0), (.int 0), (.ref t1), (.int 0), (.int 4)] 7 t := fun t k => castTop (Ry m t0 ((0 : Int32)) t1 ((0 : Int32)) ((4 : Int32)) ) k
  obtain ⟨Ua, La, Va, Ma, Ha, Ia, Ka⟩ := (id hE : EV Z Ba Aa)
  obtain ⟨cl10, Ar10, q10, Sz10, Nn10, Hs10, Gf10⟩ := id P0
  have hin11 : ¬ ((0 : Int32) < 0 ∨ cl10.slots.size ≤ ((0 : Int32)).toNatClampNeg) := inb_of Sz10 ⟨by decide, by decide⟩
  have hat12 : cl10.slots[((0 : Int32)).toNatClampNeg]? = some (.int c0) := Hs10.at hin11 rfl
  have k13 : ∀ t, Ga p e below m s₁ 20 #[.val (.ref t0), .val (.int 0), .val (.ref t1), .val (.int 0), .val (.int 4), .val (.int 0), .val (.int c0)] [(.int 255), (.int c0)] t → Ra p e below m s₁ #[(.ref t0), (.int 0), (.ref t1), (.int 0), (.int 4)] 7 t := by
    intro t k
    refine k00 t ?_
    refine XS.iconst X00.here hx rfl (hb hby Rj) ?_
    refine XS.istore X00.here hx rfl (hb hby Uj) rfl (l' := #[.val (.ref t0), .val (.int 0), .val (.ref t1), .val (.int 0), .val (.int 4), .val (.int 0), .unset]) rfl ?_
    refine XS.iload X00.here hx rfl (hb hby Hb) rfl ?_
    refine XS.iload X00.here hx rfl (hb hby Ib) rfl ?_
    refine XS.icmpNo X00.here hx rfl (hb hby Kb) rfl (tlt (by decide : (0 : Int32) < (4 : Int32))).2.1 ?_
    refine XS.aloadN X00.here hx rfl (hb hby Mb) rfl rfl ?_
    refine XS.iloadN X00.here hx rfl (hb hby Pb) rfl ?_
    refine X00.caload hx (j := (0 : Int32)) (v := (.int c0)) (by rw [e00]; exact Ar10.1) (State.isArrayOf_alike hZ.alike Ar10.2.1) Ar10.2.2 hin11 hat12 (g := (mkF m 12 #[.val (.ref t0), .val (.int 0), .val (.ref t1), .val (.int 0), .val (.int 4), .val (.int 0), .unset] [(.int 0), (.ref t0)])) rfl rfl (hb hby Rb) _ ?_
    show Ga p e below m s₁ 13 #[.val (.ref t0), .val (.int 0), .val (.ref t1), .val (.int 0), .val (.int 4), .val (.int 0), .unset] [(.int c0)] t
    refine XS.istore X00.here hx rfl (hb hby Ub) rfl (l' := #[.val (.ref t0), .val (.int 0), .val (.ref t1), .val (.int 0), .val (.int 4), .val (.int 0), .val (.int c0)]) rfl ?_
    refine XS.iload X00.here hx rfl (hb hby Vb) rfl ?_
    refine XS.sipush X00.here hx rfl (hb hby Wb) ?_
    exact k
  by_cases hc14 : (255 : Int32) < c0
  · have k15 : ∀ t, Ga p e below m s₁ 25 #[.val (.ref t0), .val (.int 0), .val (.ref t1), .val (.int 0), .val (.int 4), .val (.int 0), .val (.int c0)] [(.int 0)] t → Ra p e below m s₁ #[(.ref t0), (.int 0), (.ref t1), (.int 0), (.int 4)] 7 t := by
      intro t k
      refine k13 t ?_
      refine XS.icmpNo X00.here hx rfl (hb hby Wa) rfl (tlt hc14).2.2.2 ?_
      refine XS.iload X00.here hx rfl (hb hby Yb) rfl ?_
      exact k
    obtain ⟨fs, hr, hrun, hended, hW, hsame⟩ := X00.leave (v := some (.int 0)) (fun h => by rw [Bd.returns] at h; cases h)
    refine hNG ⟨_, _, k15 _ ?_, hrun, hended, _, _, rfl, ?_, ⟨_, rfl⟩, hW, hsame.mono (by decide) (by decide)⟩
    · exact retOut X00 hx (t := .int) Bd.returns rfl (Or.inl ⟨rfl, Or.inl rfl, _, rfl⟩) (hb hby Zb) hr
    · show Ho Z t0 t1 k0 k1 c0 c1 c2 c3 Ba Aa h0 n0 _ s₁.heap _
      rw [e00]
      exact ⟨(0 : Int32), _, rfl, N00, O0, K00, P1, (Or.inr (Or.inl ⟨rfl, hc14⟩))⟩
  · obtain ⟨cl16, Ar16, q16, Sz16, Nn16, Hs16, Gf16⟩ := id P1
    have hin17 : ¬ ((0 : Int32) < 0 ∨ cl16.slots.size ≤ ((0 : Int32)).toNatClampNeg) := inb_of Sz16 ⟨by decide, by decide⟩
    obtain ⟨T18, h18, X18, e18, W18, st18⟩ := stB X00 hx hZ e00 Ar16 (j := (0 : Int32)) hin17 (g := (mkF m 31 #[.val (.ref t0), .val (.int 0), .val (.ref t1), .val (.int 0), .val (.int 4), .val (.int 0), .val (.int c0)] [(.int (c0.toInt8.toInt32)), (.int 0), (.ref t1)])) rfl rfl (hb hby Hc)
    have V18 : Arv Z h18 t1 k1 .byte (4 : Int32) [(.int ((c0.toInt8.toInt32).toInt8.toInt32)), (.int 0), (.int 0), (.int 0)] (.int 0) := Arv.set Ar16 q16 Sz16 Nn16 Hs16 Gf16 (fits_nar_byte _) W18 0 rfl (Nat.le_of_ble_eq_true rfl)
    have N18 := Fr.snoc X18 N00 g_t1
    have O18 := O0.wr W18 g_t1
    have K18 := K00.wr W18 (Or.inl (List.mem_of_getElem? (i := 0) rfl))
    have f19 := (P0.other W18 nt)
    obtain ⟨cl20, Ar20, q20, Sz20, Nn20, Hs20, Gf20⟩ := id f19
    have hin21 : ¬ ((1 : Int32) < 0 ∨ cl20.slots.size ≤ ((1 : Int32)).toNatClampNeg) := inb_of Sz20 ⟨by decide, by decide⟩
    have hat22 : cl20.slots[((1 : Int32)).toNatClampNeg]? = some (.int c1) := Hs20.at hin21 rfl
    have k23 : ∀ t, Ga p e below m T18 20 #[.val (.ref t0), .val (.int 1), .val (.ref t1), .val (.int 1), .val (.int 4), .val (.int 1), .val (.int c1)] [(.int 255), (.int c1)] t → Ra p e below m s₁ #[(.ref t0), (.int 0), (.ref t1), (.int 0), (.int 4)] 7 t := by
      intro t k
      refine k13 t ?_
      refine XS.icmpYes X00.here hx rfl (pc0 := 20) (pc' := 26) rfl (hb hby Wa) rfl (flt hc14).2.2.2 (by decide) (by decide) ?_
      refine XS.aloadN X00.here hx rfl (hb hby Ac) rfl rfl ?_
      refine XS.iloadN X00.here hx rfl (hb hby Bc) rfl ?_
      refine XS.iload X00.here hx rfl (hb hby Dc) rfl ?_
      refine XS.i2b X00.here hx rfl (hb hby Gc) rfl ?_
      refine st18 _ ?_
      refine XS.iinc X18.here hx rfl (hb hby Ic) rfl (l' := #[.val (.ref t0), .val (.int ((0 : Int32) + (1 : Int32))), .val (.ref t1), .val (.int 0), .val (.int 4), .val (.int 0), .val (.int c0)]) rfl ?_
      show Ga p e below m T18 35 #[.val (.ref t0), .val (.int ((0 : Int32) + (1 : Int32))), .val (.ref t1), .val (.int 0), .val (.int 4), .val (.int 0), .val (.int c0)] [] t
      rw [show ((0 : Int32) + (1 : Int32)) = (1 : Int32) from by decide]
      show Ga p e below m T18 35 #[.val (.ref t0), .val (.int 1), .val (.ref t1), .val (.int 0), .val (.int 4), .val (.int 0), .val (.int c0)] [] t
      refine XS.iinc X18.here hx rfl (hb hby Kc) rfl (l' := #[.val (.ref t0), .val (.int 1), .val (.ref t1), .val (.int ((0 : Int32) + (1 : Int32))), .val (.int 4), .val (.int 0), .val (.int c0)]) rfl ?_
      show Ga p e below m T18 38 #[.val (.ref t0), .val (.int 1), .val (.ref t1), .val (.int ((0 : Int32) + (1 : Int32))), .val (.int 4), .val (.int 0), .val (.int c0)] [] t
      rw [show ((0 : Int32) + (1 : Int32)) = (1 : Int32) from by decide]
      refine XS.iinc X18.here hx rfl (hb hby Lc) rfl (l' := #[.val (.ref t0), .val (.int 1), .val (.ref t1), .val (.int 1), .val (.int 4), .val (.int ((0 : Int32) + (1 : Int32))), .val (.int c0)]) rfl ?_
      show Ga p e below m T18 41 #[.val (.ref t0), .val (.int 1), .val (.ref t1), .val (.int 1), .val (.int 4), .val (.int ((0 : Int32) + (1 : Int32))), .val (.int c0)] [] t
      rw [show ((0 : Int32) + (1 : Int32)) = (1 : Int32) from by decide]
      refine XS.goto X18.here hx rfl (pc0 := 41) (pc' := 3) rfl (hb hby Mc) (by decide) (by decide) ?_
      refine XS.iload X18.here hx rfl (hb hby Hb) rfl ?_
      refine XS.iload X18.here hx rfl (hb hby Ib) rfl ?_
      refine XS.icmpNo X18.here hx rfl (hb hby Kb) rfl (tlt (by decide : (1 : Int32) < (4 : Int32))).2.1 ?_
      show Ga p e below m T18 10 #[.val (.ref t0), .val (.int 1), .val (.ref t1), .val (.int 1), .val (.int 4), .val (.int 1), .val (.int c0)] [] t
      refine XS.aloadN X18.here hx rfl (hb hby Mb) rfl rfl ?_
      refine XS.iloadN X18.here hx rfl (hb hby Pb) rfl ?_
      refine X18.caload hx (j := (1 : Int32)) (v := (.int c1)) (by rw [e18]; exact Ar20.1) (State.isArrayOf_alike hZ.alike Ar20.2.1) Ar20.2.2 hin21 hat22 (g := (mkF m 12 #[.val (.ref t0), .val (.int 1), .val (.ref t1), .val (.int 1), .val (.int 4), .val (.int 1), .val (.int c0)] [(.int 1), (.ref t0)])) rfl rfl (hb hby Rb) _ ?_
      refine XS.istore X18.here hx rfl (hb hby Ub) rfl (l' := #[.val (.ref t0), .val (.int 1), .val (.ref t1), .val (.int 1), .val (.int 4), .val (.int 1), .val (.int c1)]) rfl ?_
      refine XS.iload X18.here hx rfl (hb hby Vb) rfl ?_
      refine XS.sipush X18.here hx rfl (hb hby Wb) ?_
      exact k
    by_cases hc24 : (255 : Int32) < c1
    · have k25 : ∀ t, Ga p e below m T18 25 #[.val (.ref t0), .val (.int 1), .val (.ref t1), .val (.int 1), .val (.int 4), .val (.int 1), .val (.int c1)] [(.int 1)] t → Ra p e below m s₁ #[(.ref t0), (.int 0), (.ref t1), (.int 0), (.int 4)] 7 t := by
        intro t k
        refine k23 t ?_
        refine XS.icmpNo X18.here hx rfl (hb hby Wa) rfl (tlt hc24).2.2.2 ?_
        refine XS.iload X18.here hx rfl (hb hby Yb) rfl ?_
        exact k
      obtain ⟨fs, hr, hrun, hended, hW, hsame⟩ := X18.leave (v := some (.int 1)) (fun h => by rw [Bd.returns] at h; cases h)
      refine hNG ⟨_, _, k25 _ ?_, hrun, hended, _, _, rfl, ?_, ⟨_, rfl⟩, hW, hsame.mono (by decide) (by decide)⟩
      · exact retOut X18 hx (t := .int) Bd.returns rfl (Or.inl ⟨rfl, Or.inl rfl, _, rfl⟩) (hb hby Zb) hr
      · show Ho Z t0 t1 k0 k1 c0 c1 c2 c3 Ba Aa h0 n0 _ T18.heap _
        rw [e18]
        exact ⟨(1 : Int32), _, rfl, N18, O18, K18, V18, (Or.inr (Or.inr (Or.inl ⟨rfl, hc24⟩)))⟩
    · obtain ⟨cl26, Ar26, q26, Sz26, Nn26, Hs26, Gf26⟩ := id V18
      have hin27 : ¬ ((1 : Int32) < 0 ∨ cl26.slots.size ≤ ((1 : Int32)).toNatClampNeg) := inb_of Sz26 ⟨by decide, by decide⟩
      obtain ⟨T28, h28, X28, e28, W28, st28⟩ := stB X18 hx hZ e18 Ar26 (j := (1 : Int32)) hin27 (g := (mkF m 31 #[.val (.ref t0), .val (.int 1), .val (.ref t1), .val (.int 1), .val (.int 4), .val (.int 1), .val (.int c1)] [(.int (c1.toInt8.toInt32)), (.int 1), (.ref t1)])) rfl rfl (hb hby Hc)
      have V28 : Arv Z h28 t1 k1 .byte (4 : Int32) [(.int ((c0.toInt8.toInt32).toInt8.toInt32)), (.int ((c1.toInt8.toInt32).toInt8.toInt32)), (.int 0), (.int 0)] (.int 0) := Arv.set Ar26 q26 Sz26 Nn26 Hs26 Gf26 (fits_nar_byte _) W28 1 rfl (Nat.le_of_ble_eq_true rfl)
      have N28 := Fr.snoc X28 N18 g_t1
      have O28 := O18.wr W28 g_t1
      have K28 := K18.wr W28 (Or.inl (List.mem_of_getElem? (i := 0) rfl))
      have f29 := (f19.other W28 nt)
      obtain ⟨cl30, Ar30, q30, Sz30, Nn30, Hs30, Gf30⟩ := id f29
      have hin31 : ¬ ((2 : Int32) < 0 ∨ cl30.slots.size ≤ ((2 : Int32)).toNatClampNeg) := inb_of Sz30 ⟨by decide, by decide⟩
      have hat32 : cl30.slots[((2 : Int32)).toNatClampNeg]? = some (.int c2) := Hs30.at hin31 rfl
      have k33 : ∀ t, Ga p e below m T28 20 #[.val (.ref t0), .val (.int 2), .val (.ref t1), .val (.int 2), .val (.int 4), .val (.int 2), .val (.int c2)] [(.int 255), (.int c2)] t → Ra p e below m s₁ #[(.ref t0), (.int 0), (.ref t1), (.int 0), (.int 4)] 7 t := by
        intro t k
        refine k23 t ?_
        refine XS.icmpYes X18.here hx rfl (pc0 := 20) (pc' := 26) rfl (hb hby Wa) rfl (flt hc24).2.2.2 (by decide) (by decide) ?_
        refine XS.aloadN X18.here hx rfl (hb hby Ac) rfl rfl ?_
        refine XS.iloadN X18.here hx rfl (hb hby Bc) rfl ?_
        refine XS.iload X18.here hx rfl (hb hby Dc) rfl ?_
        refine XS.i2b X18.here hx rfl (hb hby Gc) rfl ?_
        refine st28 _ ?_
        refine XS.iinc X28.here hx rfl (hb hby Ic) rfl (l' := #[.val (.ref t0), .val (.int ((1 : Int32) + (1 : Int32))), .val (.ref t1), .val (.int 1), .val (.int 4), .val (.int 1), .val (.int c1)]) rfl ?_
        show Ga p e below m T28 35 #[.val (.ref t0), .val (.int ((1 : Int32) + (1 : Int32))), .val (.ref t1), .val (.int 1), .val (.int 4), .val (.int 1), .val (.int c1)] [] t
        rw [show ((1 : Int32) + (1 : Int32)) = (2 : Int32) from by decide]
        show Ga p e below m T28 35 #[.val (.ref t0), .val (.int 2), .val (.ref t1), .val (.int 1), .val (.int 4), .val (.int 1), .val (.int c1)] [] t
        refine XS.iinc X28.here hx rfl (hb hby Kc) rfl (l' := #[.val (.ref t0), .val (.int 2), .val (.ref t1), .val (.int ((1 : Int32) + (1 : Int32))), .val (.int 4), .val (.int 1), .val (.int c1)]) rfl ?_
        show Ga p e below m T28 38 #[.val (.ref t0), .val (.int 2), .val (.ref t1), .val (.int ((1 : Int32) + (1 : Int32))), .val (.int 4), .val (.int 1), .val (.int c1)] [] t
        rw [show ((1 : Int32) + (1 : Int32)) = (2 : Int32) from by decide]
        refine XS.iinc X28.here hx rfl (hb hby Lc) rfl (l' := #[.val (.ref t0), .val (.int 2), .val (.ref t1), .val (.int 2), .val (.int 4), .val (.int ((1 : Int32) + (1 : Int32))), .val (.int c1)]) rfl ?_
        show Ga p e below m T28 41 #[.val (.ref t0), .val (.int 2), .val (.ref t1), .val (.int 2), .val (.int 4), .val (.int ((1 : Int32) + (1 : Int32))), .val (.int c1)] [] t
        rw [show ((1 : Int32) + (1 : Int32)) = (2 : Int32) from by decide]
        refine XS.goto X28.here hx rfl (pc0 := 41) (pc' := 3) rfl (hb hby Mc) (by decide) (by decide) ?_
        refine XS.iload X28.here hx rfl (hb hby Hb) rfl ?_
        refine XS.iload X28.here hx rfl (hb hby Ib) rfl ?_
        refine XS.icmpNo X28.here hx rfl (hb hby Kb) rfl (tlt (by decide : (2 : Int32) < (4 : Int32))).2.1 ?_
        show Ga p e below m T28 10 #[.val (.ref t0), .val (.int 2), .val (.ref t1), .val (.int 2), .val (.int 4), .val (.int 2), .val (.int c1)] [] t
        refine XS.aloadN X28.here hx rfl (hb hby Mb) rfl rfl ?_
        refine XS.iloadN X28.here hx rfl (hb hby Pb) rfl ?_
        refine X28.caload hx (j := (2 : Int32)) (v := (.int c2)) (by rw [e28]; exact Ar30.1) (State.isArrayOf_alike hZ.alike Ar30.2.1) Ar30.2.2 hin31 hat32 (g := (mkF m 12 #[.val (.ref t0), .val (.int 2), .val (.ref t1), .val (.int 2), .val (.int 4), .val (.int 2), .val (.int c1)] [(.int 2), (.ref t0)])) rfl rfl (hb hby Rb) _ ?_
        refine XS.istore X28.here hx rfl (hb hby Ub) rfl (l' := #[.val (.ref t0), .val (.int 2), .val (.ref t1), .val (.int 2), .val (.int 4), .val (.int 2), .val (.int c2)]) rfl ?_
        refine XS.iload X28.here hx rfl (hb hby Vb) rfl ?_
        refine XS.sipush X28.here hx rfl (hb hby Wb) ?_
        exact k
      by_cases hc34 : (255 : Int32) < c2
      · have k35 : ∀ t, Ga p e below m T28 25 #[.val (.ref t0), .val (.int 2), .val (.ref t1), .val (.int 2), .val (.int 4), .val (.int 2), .val (.int c2)] [(.int 2)] t → Ra p e below m s₁ #[(.ref t0), (.int 0), (.ref t1), (.int 0), (.int 4)] 7 t := by
          intro t k
          refine k33 t ?_
          refine XS.icmpNo X28.here hx rfl (hb hby Wa) rfl (tlt hc34).2.2.2 ?_
          refine XS.iload X28.here hx rfl (hb hby Yb) rfl ?_
          exact k
        obtain ⟨fs, hr, hrun, hended, hW, hsame⟩ := X28.leave (v := some (.int 2)) (fun h => by rw [Bd.returns] at h; cases h)
        refine hNG ⟨_, _, k35 _ ?_, hrun, hended, _, _, rfl, ?_, ⟨_, rfl⟩, hW, hsame.mono (by decide) (by decide)⟩
        · exact retOut X28 hx (t := .int) Bd.returns rfl (Or.inl ⟨rfl, Or.inl rfl, _, rfl⟩) (hb hby Zb) hr
        · show Ho Z t0 t1 k0 k1 c0 c1 c2 c3 Ba Aa h0 n0 _ T28.heap _
          rw [e28]
          exact ⟨(2 : Int32), _, rfl, N28, O28, K28, V28, (Or.inr (Or.inr (Or.inr (Or.inl ⟨rfl, hc34⟩))))⟩
      · obtain ⟨cl36, Ar36, q36, Sz36, Nn36, Hs36, Gf36⟩ := id V28
        have hin37 : ¬ ((2 : Int32) < 0 ∨ cl36.slots.size ≤ ((2 : Int32)).toNatClampNeg) := inb_of Sz36 ⟨by decide, by decide⟩
        obtain ⟨T38, h38, X38, e38, W38, st38⟩ := stB X28 hx hZ e28 Ar36 (j := (2 : Int32)) hin37 (g := (mkF m 31 #[.val (.ref t0), .val (.int 2), .val (.ref t1), .val (.int 2), .val (.int 4), .val (.int 2), .val (.int c2)] [(.int (c2.toInt8.toInt32)), (.int 2), (.ref t1)])) rfl rfl (hb hby Hc)
        have V38 : Arv Z h38 t1 k1 .byte (4 : Int32) [(.int ((c0.toInt8.toInt32).toInt8.toInt32)), (.int ((c1.toInt8.toInt32).toInt8.toInt32)), (.int ((c2.toInt8.toInt32).toInt8.toInt32)), (.int 0)] (.int 0) := Arv.set Ar36 q36 Sz36 Nn36 Hs36 Gf36 (fits_nar_byte _) W38 2 rfl (Nat.le_of_ble_eq_true rfl)
        have N38 := Fr.snoc X38 N28 g_t1
        have O38 := O28.wr W38 g_t1
        have K38 := K28.wr W38 (Or.inl (List.mem_of_getElem? (i := 0) rfl))
        have f39 := (f29.other W38 nt)
        obtain ⟨cl40, Ar40, q40, Sz40, Nn40, Hs40, Gf40⟩ := id f39
        have hin41 : ¬ ((3 : Int32) < 0 ∨ cl40.slots.size ≤ ((3 : Int32)).toNatClampNeg) := inb_of Sz40 ⟨by decide, by decide⟩
        have hat42 : cl40.slots[((3 : Int32)).toNatClampNeg]? = some (.int c3) := Hs40.at hin41 rfl
        have k43 : ∀ t, Ga p e below m T38 20 #[.val (.ref t0), .val (.int 3), .val (.ref t1), .val (.int 3), .val (.int 4), .val (.int 3), .val (.int c3)] [(.int 255), (.int c3)] t → Ra p e below m s₁ #[(.ref t0), (.int 0), (.ref t1), (.int 0), (.int 4)] 7 t := by
          intro t k
          refine k33 t ?_
          refine XS.icmpYes X28.here hx rfl (pc0 := 20) (pc' := 26) rfl (hb hby Wa) rfl (flt hc34).2.2.2 (by decide) (by decide) ?_
          refine XS.aloadN X28.here hx rfl (hb hby Ac) rfl rfl ?_
          refine XS.iloadN X28.here hx rfl (hb hby Bc) rfl ?_
          refine XS.iload X28.here hx rfl (hb hby Dc) rfl ?_
          refine XS.i2b X28.here hx rfl (hb hby Gc) rfl ?_
          refine st38 _ ?_
          refine XS.iinc X38.here hx rfl (hb hby Ic) rfl (l' := #[.val (.ref t0), .val (.int ((2 : Int32) + (1 : Int32))), .val (.ref t1), .val (.int 2), .val (.int 4), .val (.int 2), .val (.int c2)]) rfl ?_
          show Ga p e below m T38 35 #[.val (.ref t0), .val (.int ((2 : Int32) + (1 : Int32))), .val (.ref t1), .val (.int 2), .val (.int 4), .val (.int 2), .val (.int c2)] [] t
          rw [show ((2 : Int32) + (1 : Int32)) = (3 : Int32) from by decide]
          show Ga p e below m T38 35 #[.val (.ref t0), .val (.int 3), .val (.ref t1), .val (.int 2), .val (.int 4), .val (.int 2), .val (.int c2)] [] t
          refine XS.iinc X38.here hx rfl (hb hby Kc) rfl (l' := #[.val (.ref t0), .val (.int 3), .val (.ref t1), .val (.int ((2 : Int32) + (1 : Int32))), .val (.int 4), .val (.int 2), .val (.int c2)]) rfl ?_
          show Ga p e below m T38 38 #[.val (.ref t0), .val (.int 3), .val (.ref t1), .val (.int ((2 : Int32) + (1 : Int32))), .val (.int 4), .val (.int 2), .val (.int c2)] [] t
          rw [show ((2 : Int32) + (1 : Int32)) = (3 : Int32) from by decide]
          refine XS.iinc X38.here hx rfl (hb hby Lc) rfl (l' := #[.val (.ref t0), .val (.int 3), .val (.ref t1), .val (.int 3), .val (.int 4), .val (.int ((2 : Int32) + (1 : Int32))), .val (.int c2)]) rfl ?_
          show Ga p e below m T38 41 #[.val (.ref t0), .val (.int 3), .val (.ref t1), .val (.int 3), .val (.int 4), .val (.int ((2 : Int32) + (1 : Int32))), .val (.int c2)] [] t
          rw [show ((2 : Int32) + (1 : Int32)) = (3 : Int32) from by decide]
          refine XS.goto X38.here hx rfl (pc0 := 41) (pc' := 3) rfl (hb hby Mc) (by decide) (by decide) ?_
          refine XS.iload X38.here hx rfl (hb hby Hb) rfl ?_
          refine XS.iload X38.here hx rfl (hb hby Ib) rfl ?_
          refine XS.icmpNo X38.here hx rfl (hb hby Kb) rfl (tlt (by decide : (3 : Int32) < (4 : Int32))).2.1 ?_
          show Ga p e below m T38 10 #[.val (.ref t0), .val (.int 3), .val (.ref t1), .val (.int 3), .val (.int 4), .val (.int 3), .val (.int c2)] [] t
          refine XS.aloadN X38.here hx rfl (hb hby Mb) rfl rfl ?_
          refine XS.iloadN X38.here hx rfl (hb hby Pb) rfl ?_
          refine X38.caload hx (j := (3 : Int32)) (v := (.int c3)) (by rw [e38]; exact Ar40.1) (State.isArrayOf_alike hZ.alike Ar40.2.1) Ar40.2.2 hin41 hat42 (g := (mkF m 12 #[.val (.ref t0), .val (.int 3), .val (.ref t1), .val (.int 3), .val (.int 4), .val (.int 3), .val (.int c2)] [(.int 3), (.ref t0)])) rfl rfl (hb hby Rb) _ ?_
          refine XS.istore X38.here hx rfl (hb hby Ub) rfl (l' := #[.val (.ref t0), .val (.int 3), .val (.ref t1), .val (.int 3), .val (.int 4), .val (.int 3), .val (.int c3)]) rfl ?_
          refine XS.iload X38.here hx rfl (hb hby Vb) rfl ?_
          refine XS.sipush X38.here hx rfl (hb hby Wb) ?_
          exact k
        by_cases hc44 : (255 : Int32) < c3
        · have k45 : ∀ t, Ga p e below m T38 25 #[.val (.ref t0), .val (.int 3), .val (.ref t1), .val (.int 3), .val (.int 4), .val (.int 3), .val (.int c3)] [(.int 3)] t → Ra p e below m s₁ #[(.ref t0), (.int 0), (.ref t1), (.int 0), (.int 4)] 7 t := by
            intro t k
            refine k43 t ?_
            refine XS.icmpNo X38.here hx rfl (hb hby Wa) rfl (tlt hc44).2.2.2 ?_
            refine XS.iload X38.here hx rfl (hb hby Yb) rfl ?_
            exact k
          obtain ⟨fs, hr, hrun, hended, hW, hsame⟩ := X38.leave (v := some (.int 3)) (fun h => by rw [Bd.returns] at h; cases h)
          refine hNG ⟨_, _, k45 _ ?_, hrun, hended, _, _, rfl, ?_, ⟨_, rfl⟩, hW, hsame.mono (by decide) (by decide)⟩
          · exact retOut X38 hx (t := .int) Bd.returns rfl (Or.inl ⟨rfl, Or.inl rfl, _, rfl⟩) (hb hby Zb) hr
          · show Ho Z t0 t1 k0 k1 c0 c1 c2 c3 Ba Aa h0 n0 _ T38.heap _
            rw [e38]
            exact ⟨(3 : Int32), _, rfl, N38, O38, K38, V38, (Or.inr (Or.inr (Or.inr (Or.inr (⟨rfl, hc44⟩)))))⟩
        · obtain ⟨cl46, Ar46, q46, Sz46, Nn46, Hs46, Gf46⟩ := id V38
          have hin47 : ¬ ((3 : Int32) < 0 ∨ cl46.slots.size ≤ ((3 : Int32)).toNatClampNeg) := inb_of Sz46 ⟨by decide, by decide⟩
          obtain ⟨T48, h48, X48, e48, W48, st48⟩ := stB X38 hx hZ e38 Ar46 (j := (3 : Int32)) hin47 (g := (mkF m 31 #[.val (.ref t0), .val (.int 3), .val (.ref t1), .val (.int 3), .val (.int 4), .val (.int 3), .val (.int c3)] [(.int (c3.toInt8.toInt32)), (.int 3), (.ref t1)])) rfl rfl (hb hby Hc)
          have V48 : Arv Z h48 t1 k1 .byte (4 : Int32) [(.int ((c0.toInt8.toInt32).toInt8.toInt32)), (.int ((c1.toInt8.toInt32).toInt8.toInt32)), (.int ((c2.toInt8.toInt32).toInt8.toInt32)), (.int ((c3.toInt8.toInt32).toInt8.toInt32))] (.int 0) := Arv.set Ar46 q46 Sz46 Nn46 Hs46 Gf46 (fits_nar_byte _) W48 3 rfl (Nat.le_of_ble_eq_true rfl)
          have N48 := Fr.snoc X48 N38 g_t1
          have O48 := O38.wr W48 g_t1
          have K48 := K38.wr W48 (Or.inl (List.mem_of_getElem? (i := 0) rfl))
          have k49 : ∀ t, Ga p e below m T48 46 #[.val (.ref t0), .val (.int 4), .val (.ref t1), .val (.int 4), .val (.int 4), .val (.int 4), .val (.int c3)] [(.int 4)] t → Ra p e below m s₁ #[(.ref t0), (.int 0), (.ref t1), (.int 0), (.int 4)] 7 t := by
            intro t k
            refine k43 t ?_
            refine XS.icmpYes X38.here hx rfl (pc0 := 20) (pc' := 26) rfl (hb hby Wa) rfl (flt hc44).2.2.2 (by decide) (by decide) ?_
            refine XS.aloadN X38.here hx rfl (hb hby Ac) rfl rfl ?_
            refine XS.iloadN X38.here hx rfl (hb hby Bc) rfl ?_
            refine XS.iload X38.here hx rfl (hb hby Dc) rfl ?_
            refine XS.i2b X38.here hx rfl (hb hby Gc) rfl ?_
            refine st48 _ ?_
            refine XS.iinc X48.here hx rfl (hb hby Ic) rfl (l' := #[.val (.ref t0), .val (.int ((3 : Int32) + (1 : Int32))), .val (.ref t1), .val (.int 3), .val (.int 4), .val (.int 3), .val (.int c3)]) rfl ?_
            show Ga p e below m T48 35 #[.val (.ref t0), .val (.int ((3 : Int32) + (1 : Int32))), .val (.ref t1), .val (.int 3), .val (.int 4), .val (.int 3), .val (.int c3)] [] t
            rw [show ((3 : Int32) + (1 : Int32)) = (4 : Int32) from by decide]
            show Ga p e below m T48 35 #[.val (.ref t0), .val (.int 4), .val (.ref t1), .val (.int 3), .val (.int 4), .val (.int 3), .val (.int c3)] [] t
            refine XS.iinc X48.here hx rfl (hb hby Kc) rfl (l' := #[.val (.ref t0), .val (.int 4), .val (.ref t1), .val (.int ((3 : Int32) + (1 : Int32))), .val (.int 4), .val (.int 3), .val (.int c3)]) rfl ?_
            show Ga p e below m T48 38 #[.val (.ref t0), .val (.int 4), .val (.ref t1), .val (.int ((3 : Int32) + (1 : Int32))), .val (.int 4), .val (.int 3), .val (.int c3)] [] t
            rw [show ((3 : Int32) + (1 : Int32)) = (4 : Int32) from by decide]
            refine XS.iinc X48.here hx rfl (hb hby Lc) rfl (l' := #[.val (.ref t0), .val (.int 4), .val (.ref t1), .val (.int 4), .val (.int 4), .val (.int ((3 : Int32) + (1 : Int32))), .val (.int c3)]) rfl ?_
            show Ga p e below m T48 41 #[.val (.ref t0), .val (.int 4), .val (.ref t1), .val (.int 4), .val (.int 4), .val (.int ((3 : Int32) + (1 : Int32))), .val (.int c3)] [] t
            rw [show ((3 : Int32) + (1 : Int32)) = (4 : Int32) from by decide]
            refine XS.goto X48.here hx rfl (pc0 := 41) (pc' := 3) rfl (hb hby Mc) (by decide) (by decide) ?_
            refine XS.iload X48.here hx rfl (hb hby Hb) rfl ?_
            refine XS.iload X48.here hx rfl (hb hby Ib) rfl ?_
            refine XS.icmpYes X48.here hx rfl (pc0 := 7) (pc' := 44) rfl (hb hby Kb) rfl (flt (by decide : ¬ ((4 : Int32) < (4 : Int32)))).2.1 (by decide) (by decide) ?_
            show Ga p e below m T48 44 #[.val (.ref t0), .val (.int 4), .val (.ref t1), .val (.int 4), .val (.int 4), .val (.int 4), .val (.int c3)] [] t
            refine XS.iload X48.here hx rfl (hb hby Zi) rfl ?_
            exact k
          obtain ⟨fs, hr, hrun, hended, hW, hsame⟩ := X48.leave (v := some (.int 4)) (fun h => by rw [Bd.returns] at h; cases h)
          refine hNG ⟨_, _, k49 _ ?_, hrun, hended, _, _, rfl, ?_, ⟨_, rfl⟩, hW, hsame.mono (by decide) (by decide)⟩
          · exact retOut X48 hx (t := .int) Bd.returns rfl (Or.inl ⟨rfl, Or.inl rfl, _, rfl⟩) (hb hby Aj) hr
          · show Ho Z t0 t1 k0 k1 c0 c1 c2 c3 Ba Aa h0 n0 _ T48.heap _
            rw [e48]
            exact ⟨(4 : Int32), _, rfl, N48, O48, K48, V48, (Or.inl rfl)⟩
theorem Vy (m : MethodId) (x0 : Int32)  : entryFrame m #[(.int x0)] 1 = mkF m 0 #[.val (.int x0)] [] := by first | (simp [entryFrame, mkF, argsToLocals, Value.category]; done) | rfl
theorem ef_f4 (m : MethodId) (x0 : Int32)  : entryFrame m #[(.int x0)] 1 = mkF m 0 #[.val (.int x0)] [] := by first | (simp [entryFrame, mkF, argsToLocals, Value.category]; done) | rfl
def Q_f4 (Z : State) (Ba : Int32) (Aa : Value) (h0 : Heap) (n0 : Nat) (v : Option Value) (h : Heap) (L : List Loc) : Prop := v = some (.int 8) ∧ Fr n0 L ∧ h = h0
set_option maxRecDepth 65536 in
set_option maxHeartbeats 40000000 in
theorem rm_f4 (l : Launch) (Z : State) (a0 : Array Value) (hw : ∀ d ∈ tables_1, d.before a0 Z = true) (ws : List Jvm.Cond) (Ba : Int32) (Aa : Value) (h0 : Heap) (n0 : Nat) (O0 : Old Z n0 h0) (hE : EV Z Ba Aa) :
    MetFree l Mm (head1 (Jvm.Cond.code Mm jdk_52_method_3_code 1 (some .int) :: ws) ({ frames := 0, cells := 0, slots := 0, locals := 0 } : Room)) (fun a U => a = #[(.int 4)] ∧ Z.Warmed39 U.vm ∧ U.heap = h0) (fun _ _ _ _ _ => True) (fun _ U o U' => ∃ v L, o = .returned v ∧ Q_f4 Z Ba Aa h0 n0 v U'.heap L ∧ FrameEnd U o U' L ({ frames := 0, cells := 0, slots := 0, locals := 0 } : Room).cells ({ frames := 0, cells := 0, slots := 0, locals := 0 } : Room).slots) := by
  refine MetFree.of_bodySF (plainFor_of_name Pa) hisR ?_
  intro p e s m args below meth c s₁ Bd hml0 hP hK
  obtain ⟨rfl, hZ, hh⟩ := hP
  have hx := Bd.exec
  have hby := Bd.bytes
  have hml : c.maxLocals = 1 := hml0
  have hown : s.vm.findClass "java/lang/StringUTF16" = some m.cls := findClass_of_methodNamed Bd.named
  have hnm := (name_of_methodNamed Bd.named Bd.method).1
  have X00 : Stand p l e ({ frames := 0, cells := 0, slots := 0, locals := 0 } : Room) s m #[(.int 4)] below meth c s₁ [] 0 0 := Stand.of_body Bd
  have e00 : s₁.heap = h0 := by rw [← hh, Bd.state]; rfl
  have N00 := Fr.nil n0
  refine Classical.byContradiction fun hNG => ?_
  have K00 := Keep.refl h0 []
  have k00 : ∀ t, Ga p e below m s₁ 0 #[.val (.int 4)] [] t → Ra p e below m s₁ #[(.int 4)] 1 t := fun t k => castTop (ef_f4 m ((4 : Int32)) ) k
  obtain ⟨Ua, La, Va, Ma, Ha, Ia, Ka⟩ := (id hE : EV Z Ba Aa)
  have k10 : ∀ t, Ga p e below m s₁ 58 #[.val (.int 4)] [(.int 8)] t → Ra p e below m s₁ #[(.int 4)] 1 t := by
    intro t k
    refine k00 t ?_
    refine XS.iloadN X00.here hx rfl (hb hby Gl) rfl ?_
    refine XS.ifYes X00.here hx rfl (pc0 := 1) (pc' := 12) rfl (hb hby Hl) rfl ((if0 _ _).trans (flt (by decide : ¬ ((4 : Int32) < (0 : Int32)))).2.1) (by decide) (by decide) ?_
    refine XS.iloadN X00.here hx rfl (hb hby Vj) rfl ?_
    refine X00.ldcI hx hown (mvT hZ (Da hw 56 rfl)) rfl (hb hby Wj) ?_
    refine XS.icmpYes X00.here hx rfl (pc0 := 15) (pc' := 55) rfl (hb hby Yj) rfl (tlt (by decide : (4 : Int32) < (1073741823 : Int32))).1 (by decide) (by decide) ?_
    refine XS.iloadN X00.here hx rfl (hb hby Zj) rfl ?_
    refine XS.iconst X00.here hx rfl (hb hby Ak) ?_
    refine XS.ishl X00.here hx rfl (hb hby Bk) rfl ?_
    show Ga p e below m s₁ 58 #[.val (.int 4)] [(.int ((4 : Int32) <<< ((1 : Int32) &&& 31)))] t
    rw [show ((4 : Int32) <<< ((1 : Int32) &&& 31)) = (8 : Int32) from by decide]
    exact k
  obtain ⟨fs, hr, hrun, hended, hW, hsame⟩ := X00.leave (v := some (.int 8)) (fun h => by rw [Bd.returns] at h; cases h)
  refine hNG ⟨_, _, k10 _ ?_, hrun, hended, _, _, rfl, ?_, ⟨_, rfl⟩, hW, hsame.mono (by decide) (by decide)⟩
  · exact retOut X00 hx (t := .int) Bd.returns rfl (Or.inl ⟨rfl, Or.inl rfl, _, rfl⟩) (hb hby Dk) hr
  · show Q_f4 Z Ba Aa h0 n0 _ s₁.heap _
    rw [e00]
    exact ⟨rfl, N00, rfl⟩
def Rs (Z : State) (Ba : Int32) (Aa : Value) (h0 : Heap) (n0 : Nat) (v : Option Value) (h : Heap) (L : List Loc) : Prop := ∃ (b : Addr) (k : ClassId), v = some (.ref b) ∧ Fr n0 L ∧ Old Z n0 h ∧ Keep h0 h [] ∧ n0 ≤ b ∧ h0.size ≤ b ∧ Arv Z h b k .byte (8 : Int32) [(.int 0), (.int 0), (.int 0), (.int 0), (.int 0), (.int 0), (.int 0), (.int 0)] (.int 0)
set_option maxRecDepth 65536 in
set_option maxHeartbeats 40000000 in
theorem Wy (l : Launch) (Z : State) (a0 : Array Value) (hw : ∀ d ∈ tables_1, d.before a0 Z = true) (ws : List Jvm.Cond) (Ba : Int32) (Aa : Value) (h0 : Heap) (n0 : Nat) (O0 : Old Z n0 h0) (hE : EV Z Ba Aa) :
    MetFree l Pm (head1 (Jvm.Cond.code Pm jdk_52_method_2_code 1 (some (.array .byte)) :: ws) ({ frames := 1, cells := 1, slots := 8, locals := 12 } : Room)) (fun a U => a = #[(.int 4)] ∧ Z.Warmed39 U.vm ∧ U.heap = h0) (fun _ _ _ _ _ => True) (fun _ U o U' => ∃ v L, o = .returned v ∧ Rs Z Ba Aa h0 n0 v U'.heap L ∧ FrameEnd U o U' L ({ frames := 1, cells := 1, slots := 8, locals := 12 } : Room).cells ({ frames := 1, cells := 1, slots := 8, locals := 12 } : Room).slots) := by
  refine MetFree.of_bodySF (plainFor_of_name Pa) hisR ?_
  intro p e s m args below meth c s₁ Bd hml0 hP hK
  obtain ⟨rfl, hZ, hh⟩ := hP
  have hx := Bd.exec
  have hby := Bd.bytes
  have hml : c.maxLocals = 1 := hml0
  have hown : s.vm.findClass "java/lang/StringUTF16" = some m.cls := findClass_of_methodNamed Bd.named
  have hnm := (name_of_methodNamed Bd.named Bd.method).1
  have X00 : Stand p l e ({ frames := 1, cells := 1, slots := 8, locals := 12 } : Room) s m #[(.int 4)] below meth c s₁ [] 0 0 := Stand.of_body Bd
  have e00 : s₁.heap = h0 := by rw [← hh, Bd.state]; rfl
  have N00 := Fr.nil n0
  refine Classical.byContradiction fun hNG => ?_
  have K00 := Keep.refl h0 []
  have k00 : ∀ t, Ga p e below m s₁ 0 #[.val (.int 4)] [] t → Ra p e below m s₁ #[(.int 4)] 1 t := fun t k => castTop (Vy m ((4 : Int32)) ) k
  obtain ⟨Ua, La, Va, Ma, Ha, Ia, Ka⟩ := (id hE : EV Z Ba Aa)
  obtain ⟨_, _, ⟨T10, L10, k10, n10⟩, -, X10, ⟨Lc10, hQ10, l10, y10, z10⟩, st10⟩ := Jvm.LawKit.callS X00 hx (y := Mm) hown (mvT hZ (Da hw 53 rfl)) (mvT hZ (Da hw 54 rfl)) (mvT hZ (Da hw 18 rfl)) (mvT hZ (Da hw 55 rfl)) (by decide) (backOf (W := 0) (rm_f4 l Z a0 hw []  _ _ h0 n0 O0 hE) hZ (Da hw 55 rfl) (Da hw 18 rfl) (by decide) (by decide)) (g := (mkF m 1 #[.val (.int 4)] [(.int 4)])) rfl (by rw [hml]; rfl) (argsL := [(.int 4)]) (rest := []) (lenOf Kp rfl) rfl (by show 2 * 0 + _ ≤ _; exact Nat.le_of_eq rfl) (hb hby Dl) (fun _ _ => ⟨rfl, e00, (by decide : 0 + 0 ≤ _), (by decide : 0 + 0 ≤ _)⟩)
  dsimp only [Pt.U, Pt.locs, Pt.cells, Pt.slots] at X10 l10 y10 z10 st10 hQ10
  subst l10 y10 z10
  obtain ⟨rfl, N10q, hp10⟩ := hQ10
  have N10 := Fr.app N00 N10q
  obtain ⟨T11, h11, c11, X11, e11, E11, A11, st11⟩ := newP X10 hx hZ (Da hw 20 rfl) hp10 (g := (mkF m 4 #[.val (.int 4)] [(.int 8)])) rfl (hb hby Il) rfl (by decide) (cap := 8) (by decide) (by decide) (by decide) (by decide)
  obtain ⟨b11, g11⟩ : ∃ z, z = h0.size := ⟨_, rfl⟩
  rw [← g11] at A11 st11
  have O11 := O0.ext E11
  have g_b11 : n0 ≤ b11 := Nat.le_trans (Nat.le_of_eq O0.1.symm) (Nat.le_trans O0.2.1 (Nat.le_of_eq g11.symm))
  have s_b11 : h0.size ≤ b11 := Nat.le_trans K00.1 (Nat.le_of_eq g11.symm)
  have K11 := K00.ext E11
  have V11 : Arv Z h11 b11 c11 .byte (8 : Int32) [(.int 0), (.int 0), (.int 0), (.int 0), (.int 0), (.int 0), (.int 0), (.int 0)] (.int 0) := (Arv.new A11 (by decide)).pad (pad_rep [] (.int 0) 8)
  have lt_b11 := V11.lt
  have k12 : ∀ t, Ga p e below m T11 6 #[.val (.int 4)] [(.ref b11)] t → Ra p e below m s₁ #[(.int 4)] 1 t := by
    intro t k
    refine k00 t ?_
    refine XS.iloadN X00.here hx rfl (hb hby Bl) rfl ?_
    refine st10 _ ?_
    refine st11 _ ?_
    exact k
  obtain ⟨fs, hr, hrun, hended, hW, hsame⟩ := X11.leave (v := some (.ref b11)) (fun h => by rw [Bd.returns] at h; cases h)
  refine hNG ⟨_, _, k12 _ ?_, hrun, hended, _, _, rfl, ?_, ⟨_, rfl⟩, hW, hsame.mono (by decide) (by decide)⟩
  · exact retOut X11 hx (t := (.array .byte)) Bd.returns rfl (Or.inr (Or.inr (Or.inr (Or.inr ⟨rfl, rfl, rfl⟩)))) (hb hby Kl) hr
  · show Rs Z Ba Aa h0 n0 _ T11.heap _
    rw [e11]
    exact ⟨b11, c11, rfl, N10, O11, K11, g_b11, s_b11, V11⟩
theorem Gv (m : MethodId) (x0 : Addr) (x1 : Int32) (x2 : Int32)  : entryFrame m #[(.ref x0), (.int x1), (.int x2)] 3 = mkF m 0 #[.val (.ref x0), .val (.int x1), .val (.int x2)] [] := by first | (simp [entryFrame, mkF, argsToLocals, Value.category]; done) | rfl
def Lr (Z : State) (q0 : Addr) (k0 : ClassId) (cq : Int32) (x0 : Int32) (x1 : Int32) (x2 : Int32) (x3 : Int32) (x4 : Int32) (x5 : Int32) (x6 : Int32) (x7 : Int32) (Ba : Int32) (Aa : Value) (h0 : Heap) (n0 : Nat) (v : Option Value) (h : Heap) (L : List Loc) : Prop := v = none ∧ Fr n0 L ∧ Old Z n0 h ∧ Keep h0 h [q0] ∧ Arv Z h q0 k0 .byte (8 : Int32) [(.int ((cq >>> ((0 : Int32) &&& 31)).toInt8.toInt32)), (.int ((cq >>> ((8 : Int32) &&& 31)).toInt8.toInt32)), (.int x2), (.int x3), (.int x4), (.int x5), (.int x6), (.int x7)] (.int 0)
set_option maxRecDepth 65536 in
set_option maxHeartbeats 40000000 in
theorem Hv (l : Launch) (Z : State) (a0 : Array Value) (hw : ∀ d ∈ tables_1, d.before a0 Z = true) (ws : List Jvm.Cond) (q0 : Addr) (k0 : ClassId) (cq : Int32) (x0 : Int32) (x1 : Int32) (x2 : Int32) (x3 : Int32) (x4 : Int32) (x5 : Int32) (x6 : Int32) (x7 : Int32) (Ba : Int32) (Aa : Value) (h0 : Heap) (n0 : Nat) (O0 : Old Z n0 h0) (hE : EV Z Ba Aa) (P0 : Arv Z h0 q0 k0 .byte (8 : Int32) [(.int x0), (.int x1), (.int x2), (.int x3), (.int x4), (.int x5), (.int x6), (.int x7)] (.int 0)) (g_q0 : n0 ≤ q0) :
    MetFree l Gi (head1 (Jvm.Cond.code Gi jdk_52_method_4_code 3 none :: ws) ({ frames := 0, cells := 0, slots := 0, locals := 0 } : Room)) (fun a U => a = #[(.ref q0), (.int 0), (.int cq)] ∧ Z.Warmed39 U.vm ∧ U.heap = h0) (fun _ _ _ _ _ => True) (fun _ U o U' => ∃ v L, o = .returned v ∧ Lr Z q0 k0 cq x0 x1 x2 x3 x4 x5 x6 x7 Ba Aa h0 n0 v U'.heap L ∧ FrameEnd U o U' L ({ frames := 0, cells := 0, slots := 0, locals := 0 } : Room).cells ({ frames := 0, cells := 0, slots := 0, locals := 0 } : Room).slots) := by
  refine MetFree.of_bodySF (plainFor_of_name Pa) hisR ?_
  intro p e s m args below meth c s₁ Bd hml0 hP hK
  obtain ⟨rfl, hZ, hh⟩ := hP
  have hx := Bd.exec
  have hby := Bd.bytes
  have hml : c.maxLocals = 3 := hml0
  have hown : s.vm.findClass "java/lang/StringUTF16" = some m.cls := findClass_of_methodNamed Bd.named
  have hnm := (name_of_methodNamed Bd.named Bd.method).1
  have X00 : Stand p l e ({ frames := 0, cells := 0, slots := 0, locals := 0 } : Room) s m #[(.ref q0), (.int 0), (.int cq)] below meth c s₁ [] 0 0 := Stand.of_body Bd
  have e00 : s₁.heap = h0 := by rw [← hh, Bd.state]; rfl
  have N00 := Fr.nil n0
  refine Classical.byContradiction fun hNG => ?_
  have K00 := Keep.refl h0 [q0]
  have k00 : ∀ t, Ga p e below m s₁ 0 #[.val (.ref q0), .val (.int 0), .val (.int cq)] [] t → Ra p e below m s₁ #[(.ref q0), (.int 0), (.int cq)] 3 t := fun t k => castTop (Gv m q0 ((0 : Int32)) cq ) k
  obtain ⟨Ua, La, Va, Ma, Ha, Ia, Ka⟩ := (id hE : EV Z Ba Aa)
  obtain ⟨T10, X10, e10, st10⟩ := getS2 X00 hx hZ hown (host := "") (Or.inl (Da hw 60 rfl)) Via.refl e00 (Ha.ext O0.2) (g := (mkF m 0 #[.val (.ref q0), .val (.int 0), .val (.int cq)] [])) rfl (hb hby Rg)
  obtain ⟨T11, X11, e11, st11⟩ := getS2 X10 hx hZ hown (host := "") (Or.inl (Da hw 61 rfl)) Via.refl e10 (Ia.ext O0.2) (g := (mkF m 38 #[.val (.ref q0), .val (.int 1), .val (.int cq)] [(.int cq), (.int 0), (.ref q0)])) rfl (hb hby Le)
  obtain ⟨cl12, Ar12, q12, Sz12, Nn12, Hs12, Gf12⟩ := id P0
  have hin13 : ¬ ((0 : Int32) < 0 ∨ cl12.slots.size ≤ ((0 : Int32)).toNatClampNeg) := inb_of Sz12 ⟨by decide, by decide⟩
  obtain ⟨T14, h14, X14, e14, W14, st14⟩ := stB X11 hx hZ e11 Ar12 (j := (0 : Int32)) hin13 (g := (mkF m 43 #[.val (.ref q0), .val (.int 1), .val (.int cq)] [(.int ((cq >>> ((0 : Int32) &&& 31)).toInt8.toInt32)), (.int 0), (.ref q0)])) rfl rfl (hb hby Re)
  have V14 : Arv Z h14 q0 k0 .byte (8 : Int32) [(.int ((cq >>> ((0 : Int32) &&& 31)).toInt8.toInt32)), (.int x1), (.int x2), (.int x3), (.int x4), (.int x5), (.int x6), (.int x7)] (.int 0) := by
    have q := Arv.set Ar12 q12 Sz12 Nn12 Hs12 Gf12 (fits_nar_byte _) W14 0 rfl (Nat.le_of_ble_eq_true rfl)
    first | exact q | (simp only [Yi, Di] at q; exact q)
  have N14 := Fr.snoc X14 N00 g_q0
  have O14 := O0.wr W14 g_q0
  have K14 := K00.wr W14 (Or.inl (List.mem_of_getElem? (i := 0) rfl))
  obtain ⟨T15, X15, e15, st15⟩ := getS2 X14 hx hZ hown (host := "") (Or.inl (Da hw 62 rfl)) Via.refl e14 (Ka.ext O14.2) (g := (mkF m 47 #[.val (.ref q0), .val (.int 1), .val (.int cq)] [(.int cq), (.int 1), (.ref q0)])) rfl (hb hby Ye)
  obtain ⟨cl16, Ar16, q16, Sz16, Nn16, Hs16, Gf16⟩ := id V14
  have hin17 : ¬ ((1 : Int32) < 0 ∨ cl16.slots.size ≤ ((1 : Int32)).toNatClampNeg) := inb_of Sz16 ⟨by decide, by decide⟩
  obtain ⟨T18, h18, X18, e18, W18, st18⟩ := stB X15 hx hZ e15 Ar16 (j := (1 : Int32)) hin17 (g := (mkF m 52 #[.val (.ref q0), .val (.int 1), .val (.int cq)] [(.int ((cq >>> ((8 : Int32) &&& 31)).toInt8.toInt32)), (.int 1), (.ref q0)])) rfl rfl (hb hby Bf)
  have V18 : Arv Z h18 q0 k0 .byte (8 : Int32) [(.int ((cq >>> ((0 : Int32) &&& 31)).toInt8.toInt32)), (.int ((cq >>> ((8 : Int32) &&& 31)).toInt8.toInt32)), (.int x2), (.int x3), (.int x4), (.int x5), (.int x6), (.int x7)] (.int 0) := by
    have q := Arv.set Ar16 q16 Sz16 Nn16 Hs16 Gf16 (fits_nar_byte _) W18 1 rfl (Nat.le_of_ble_eq_true rfl)
    first | exact q | (simp only [Yi, Di] at q; exact q)
  have N18 := Fr.snoc X18 N14 g_q0
  have O18 := O14.wr W18 g_q0
  have K18 := K14.wr W18 (Or.inl (List.mem_of_getElem? (i := 0) rfl))
  have k19 : ∀ t, Ga p e below m T18 53 #[.val (.ref q0), .val (.int 1), .val (.int cq)] [] t → Ra p e below m s₁ #[(.ref q0), (.int 0), (.int cq)] 3 t := by
    intro t k
    refine k00 t ?_
    refine st10 _ ?_
    refine XS.ifYes X10.here hx rfl (pc0 := 3) (pc' := 28) rfl (hb hby Ug) rfl ((if0 _ _).trans (feq (by decide : ¬ ((1 : Int32) = (0 : Int32)))).2) (by decide) (by decide) ?_
    refine XS.iloadN X10.here hx rfl (hb hby Zd) rfl ?_
    refine XS.iconst X10.here hx rfl (hb hby Ae) ?_
    refine XS.ishl X10.here hx rfl (hb hby Be) rfl ?_
    show Ga p e below m T10 31 #[.val (.ref q0), .val (.int 0), .val (.int cq)] [(.int ((0 : Int32) <<< ((1 : Int32) &&& 31)))] t
    rw [show ((0 : Int32) <<< ((1 : Int32) &&& 31)) = (0 : Int32) from by decide]
    refine XS.istoreN X10.here hx rfl (hb hby De) rfl (l' := #[.val (.ref q0), .val (.int 0), .val (.int cq)]) rfl ?_
    refine XS.aloadN X10.here hx rfl (hb hby Ge) rfl rfl ?_
    show Ga p e below m T10 33 #[.val (.ref q0), .val (.int 0), .val (.int cq)] [(.ref q0)] t
    refine XS.iloadN X10.here hx rfl (hb hby He) rfl ?_
    refine XS.iinc X10.here hx rfl (hb hby Ie) rfl (l' := #[.val (.ref q0), .val (.int ((0 : Int32) + (1 : Int32))), .val (.int cq)]) rfl ?_
    show Ga p e below m T10 37 #[.val (.ref q0), .val (.int ((0 : Int32) + (1 : Int32))), .val (.int cq)] [(.int 0), (.ref q0)] t
    rw [show ((0 : Int32) + (1 : Int32)) = (1 : Int32) from by decide]
    refine XS.iloadN X10.here hx rfl (hb hby Ke) rfl ?_
    refine st11 _ ?_
    refine XS.ishr X11.here hx rfl (hb hby Me) rfl ?_
    refine XS.i2b X11.here hx rfl (hb hby Pe) rfl ?_
    refine st14 _ ?_
    show Ga p e below m T14 44 #[.val (.ref q0), .val (.int 1), .val (.int cq)] [] t
    refine XS.aloadN X14.here hx rfl (hb hby Ue) rfl rfl ?_
    refine XS.iloadN X14.here hx rfl (hb hby Ve) rfl ?_
    refine XS.iloadN X14.here hx rfl (hb hby We) rfl ?_
    refine st15 _ ?_
    refine XS.ishr X15.here hx rfl (hb hby Ze) rfl ?_
    refine XS.i2b X15.here hx rfl (hb hby Af) rfl ?_
    refine st18 _ ?_
    exact k
  obtain ⟨fs, hr, hrun, hended, hW, hsame⟩ := X18.leave (v := none) (fun _ => rfl)
  refine hNG ⟨_, _, k19 _ ?_, hrun, hended, _, _, rfl, ?_, ⟨_, rfl⟩, hW, hsame.mono (by decide) (by decide)⟩
  · exact X18.returnOut hx Bd.returns (hb hby Df) hr
  · show Lr Z q0 k0 cq x0 x1 x2 x3 x4 x5 x6 x7 Ba Aa h0 n0 _ T18.heap _
    rw [e18]
    exact ⟨rfl, N18, O18, K18, V18⟩
theorem Iv (m : MethodId) (x0 : Addr) (x1 : Int32) (x2 : Int32)  : entryFrame m #[(.ref x0), (.int x1), (.int x2)] 3 = mkF m 0 #[.val (.ref x0), .val (.int x1), .val (.int x2)] [] := by first | (simp [entryFrame, mkF, argsToLocals, Value.category]; done) | rfl
def Mr (Z : State) (q0 : Addr) (k0 : ClassId) (cq : Int32) (x0 : Int32) (x1 : Int32) (x2 : Int32) (x3 : Int32) (x4 : Int32) (x5 : Int32) (x6 : Int32) (x7 : Int32) (Ba : Int32) (Aa : Value) (h0 : Heap) (n0 : Nat) (v : Option Value) (h : Heap) (L : List Loc) : Prop := v = none ∧ Fr n0 L ∧ Old Z n0 h ∧ Keep h0 h [q0] ∧ Arv Z h q0 k0 .byte (8 : Int32) [(.int x0), (.int x1), (.int ((cq >>> ((0 : Int32) &&& 31)).toInt8.toInt32)), (.int ((cq >>> ((8 : Int32) &&& 31)).toInt8.toInt32)), (.int x4), (.int x5), (.int x6), (.int x7)] (.int 0)
set_option maxRecDepth 65536 in
set_option maxHeartbeats 40000000 in
theorem Kv (l : Launch) (Z : State) (a0 : Array Value) (hw : ∀ d ∈ tables_1, d.before a0 Z = true) (ws : List Jvm.Cond) (q0 : Addr) (k0 : ClassId) (cq : Int32) (x0 : Int32) (x1 : Int32) (x2 : Int32) (x3 : Int32) (x4 : Int32) (x5 : Int32) (x6 : Int32) (x7 : Int32) (Ba : Int32) (Aa : Value) (h0 : Heap) (n0 : Nat) (O0 : Old Z n0 h0) (hE : EV Z Ba Aa) (P0 : Arv Z h0 q0 k0 .byte (8 : Int32) [(.int x0), (.int x1), (.int x2), (.int x3), (.int x4), (.int x5), (.int x6), (.int x7)] (.int 0)) (g_q0 : n0 ≤ q0) :
    MetFree l Gi (head1 (Jvm.Cond.code Gi jdk_52_method_4_code 3 none :: ws) ({ frames := 0, cells := 0, slots := 0, locals := 0 } : Room)) (fun a U => a = #[(.ref q0), (.int 1), (.int cq)] ∧ Z.Warmed39 U.vm ∧ U.heap = h0) (fun _ _ _ _ _ => True) (fun _ U o U' => ∃ v L, o = .returned v ∧ Mr Z q0 k0 cq x0 x1 x2 x3 x4 x5 x6 x7 Ba Aa h0 n0 v U'.heap L ∧ FrameEnd U o U' L ({ frames := 0, cells := 0, slots := 0, locals := 0 } : Room).cells ({ frames := 0, cells := 0, slots := 0, locals := 0 } : Room).slots) := by
  refine MetFree.of_bodySF (plainFor_of_name Pa) hisR ?_
  intro p e s m args below meth c s₁ Bd hml0 hP hK
  obtain ⟨rfl, hZ, hh⟩ := hP
  have hx := Bd.exec
  have hby := Bd.bytes
  have hml : c.maxLocals = 3 := hml0
  have hown : s.vm.findClass "java/lang/StringUTF16" = some m.cls := findClass_of_methodNamed Bd.named
  have hnm := (name_of_methodNamed Bd.named Bd.method).1
  have X00 : Stand p l e ({ frames := 0, cells := 0, slots := 0, locals := 0 } : Room) s m #[(.ref q0), (.int 1), (.int cq)] below meth c s₁ [] 0 0 := Stand.of_body Bd
  have e00 : s₁.heap = h0 := by rw [← hh, Bd.state]; rfl
  have N00 := Fr.nil n0
  refine Classical.byContradiction fun hNG => ?_
  have K00 := Keep.refl h0 [q0]
  have k00 : ∀ t, Ga p e below m s₁ 0 #[.val (.ref q0), .val (.int 1), .val (.int cq)] [] t → Ra p e below m s₁ #[(.ref q0), (.int 1), (.int cq)] 3 t := fun t k => castTop (Iv m q0 ((1 : Int32)) cq ) k
  obtain ⟨Ua, La, Va, Ma, Ha, Ia, Ka⟩ := (id hE : EV Z Ba Aa)
  obtain ⟨T10, X10, e10, st10⟩ := getS2 X00 hx hZ hown (host := "") (Or.inl (Da hw 60 rfl)) Via.refl e00 (Ha.ext O0.2) (g := (mkF m 0 #[.val (.ref q0), .val (.int 1), .val (.int cq)] [])) rfl (hb hby Rg)
  obtain ⟨T11, X11, e11, st11⟩ := getS2 X10 hx hZ hown (host := "") (Or.inl (Da hw 61 rfl)) Via.refl e10 (Ia.ext O0.2) (g := (mkF m 38 #[.val (.ref q0), .val (.int 3), .val (.int cq)] [(.int cq), (.int 2), (.ref q0)])) rfl (hb hby Le)
  obtain ⟨cl12, Ar12, q12, Sz12, Nn12, Hs12, Gf12⟩ := id P0
  have hin13 : ¬ ((2 : Int32) < 0 ∨ cl12.slots.size ≤ ((2 : Int32)).toNatClampNeg) := inb_of Sz12 ⟨by decide, by decide⟩
  obtain ⟨T14, h14, X14, e14, W14, st14⟩ := stB X11 hx hZ e11 Ar12 (j := (2 : Int32)) hin13 (g := (mkF m 43 #[.val (.ref q0), .val (.int 3), .val (.int cq)] [(.int ((cq >>> ((0 : Int32) &&& 31)).toInt8.toInt32)), (.int 2), (.ref q0)])) rfl rfl (hb hby Re)
  have V14 : Arv Z h14 q0 k0 .byte (8 : Int32) [(.int x0), (.int x1), (.int ((cq >>> ((0 : Int32) &&& 31)).toInt8.toInt32)), (.int x3), (.int x4), (.int x5), (.int x6), (.int x7)] (.int 0) := by
    have q := Arv.set Ar12 q12 Sz12 Nn12 Hs12 Gf12 (fits_nar_byte _) W14 2 rfl (Nat.le_of_ble_eq_true rfl)
    first | exact q | (simp only [Yi, Di] at q; exact q)
  have N14 := Fr.snoc X14 N00 g_q0
  have O14 := O0.wr W14 g_q0
  have K14 := K00.wr W14 (Or.inl (List.mem_of_getElem? (i := 0) rfl))
  obtain ⟨T15, X15, e15, st15⟩ := getS2 X14 hx hZ hown (host := "") (Or.inl (Da hw 62 rfl)) Via.refl e14 (Ka.ext O14.2) (g := (mkF m 47 #[.val (.ref q0), .val (.int 3), .val (.int cq)] [(.int cq), (.int 3), (.ref q0)])) rfl (hb hby Ye)
  obtain ⟨cl16, Ar16, q16, Sz16, Nn16, Hs16, Gf16⟩ := id V14
  have hin17 : ¬ ((3 : Int32) < 0 ∨ cl16.slots.size ≤ ((3 : Int32)).toNatClampNeg) := inb_of Sz16 ⟨by decide, by decide⟩
  obtain ⟨T18, h18, X18, e18, W18, st18⟩ := stB X15 hx hZ e15 Ar16 (j := (3 : Int32)) hin17 (g := (mkF m 52 #[.val (.ref q0), .val (.int 3), .val (.int cq)] [(.int ((cq >>> ((8 : Int32) &&& 31)).toInt8.toInt32)), (.int 3), (.ref q0)])) rfl rfl (hb hby Bf)
  have V18 : Arv Z h18 q0 k0 .byte (8 : Int32) [(.int x0), (.int x1), (.int ((cq >>> ((0 : Int32) &&& 31)).toInt8.toInt32)), (.int ((cq >>> ((8 : Int32) &&& 31)).toInt8.toInt32)), (.int x4), (.int x5), (.int x6), (.int x7)] (.int 0) := by
    have q := Arv.set Ar16 q16 Sz16 Nn16 Hs16 Gf16 (fits_nar_byte _) W18 3 rfl (Nat.le_of_ble_eq_true rfl)
    first | exact q | (simp only [Yi, Di] at q; exact q)
  have N18 := Fr.snoc X18 N14 g_q0
  have O18 := O14.wr W18 g_q0
  have K18 := K14.wr W18 (Or.inl (List.mem_of_getElem? (i := 0) rfl))
  have k19 : ∀ t, Ga p e below m T18 53 #[.val (.ref q0), .val (.int 3), .val (.int cq)] [] t → Ra p e below m s₁ #[(.ref q0), (.int 1), (.int cq)] 3 t := by
    intro t k
    refine k00 t ?_
    refine st10 _ ?_
    refine XS.ifYes X10.here hx rfl (pc0 := 3) (pc' := 28) rfl (hb hby Ug) rfl ((if0 _ _).trans (feq (by decide : ¬ ((1 : Int32) = (0 : Int32)))).2) (by decide) (by decide) ?_
    refine XS.iloadN X10.here hx rfl (hb hby Zd) rfl ?_
    refine XS.iconst X10.here hx rfl (hb hby Ae) ?_
    refine XS.ishl X10.here hx rfl (hb hby Be) rfl ?_
    show Ga p e below m T10 31 #[.val (.ref q0), .val (.int 1), .val (.int cq)] [(.int ((1 : Int32) <<< ((1 : Int32) &&& 31)))] t
    rw [show ((1 : Int32) <<< ((1 : Int32) &&& 31)) = (2 : Int32) from by decide]
    refine XS.istoreN X10.here hx rfl (hb hby De) rfl (l' := #[.val (.ref q0), .val (.int 2), .val (.int cq)]) rfl ?_
    refine XS.aloadN X10.here hx rfl (hb hby Ge) rfl rfl ?_
    show Ga p e below m T10 33 #[.val (.ref q0), .val (.int 2), .val (.int cq)] [(.ref q0)] t
    refine XS.iloadN X10.here hx rfl (hb hby He) rfl ?_
    refine XS.iinc X10.here hx rfl (hb hby Ie) rfl (l' := #[.val (.ref q0), .val (.int ((2 : Int32) + (1 : Int32))), .val (.int cq)]) rfl ?_
    show Ga p e below m T10 37 #[.val (.ref q0), .val (.int ((2 : Int32) + (1 : Int32))), .val (.int cq)] [(.int 2), (.ref q0)] t
    rw [show ((2 : Int32) + (1 : Int32)) = (3 : Int32) from by decide]
    refine XS.iloadN X10.here hx rfl (hb hby Ke) rfl ?_
    refine st11 _ ?_
    refine XS.ishr X11.here hx rfl (hb hby Me) rfl ?_
    refine XS.i2b X11.here hx rfl (hb hby Pe) rfl ?_
    refine st14 _ ?_
    show Ga p e below m T14 44 #[.val (.ref q0), .val (.int 3), .val (.int cq)] [] t
    refine XS.aloadN X14.here hx rfl (hb hby Ue) rfl rfl ?_
    refine XS.iloadN X14.here hx rfl (hb hby Ve) rfl ?_
    refine XS.iloadN X14.here hx rfl (hb hby We) rfl ?_
    refine st15 _ ?_
    refine XS.ishr X15.here hx rfl (hb hby Ze) rfl ?_
    refine XS.i2b X15.here hx rfl (hb hby Af) rfl ?_
    refine st18 _ ?_
    exact k
  obtain ⟨fs, hr, hrun, hended, hW, hsame⟩ := X18.leave (v := none) (fun _ => rfl)
  refine hNG ⟨_, _, k19 _ ?_, hrun, hended, _, _, rfl, ?_, ⟨_, rfl⟩, hW, hsame.mono (by decide) (by decide)⟩
  · exact X18.returnOut hx Bd.returns (hb hby Df) hr
  · show Mr Z q0 k0 cq x0 x1 x2 x3 x4 x5 x6 x7 Ba Aa h0 n0 _ T18.heap _
    rw [e18]
    exact ⟨rfl, N18, O18, K18, V18⟩
theorem Lv (m : MethodId) (x0 : Addr) (x1 : Int32) (x2 : Int32)  : entryFrame m #[(.ref x0), (.int x1), (.int x2)] 3 = mkF m 0 #[.val (.ref x0), .val (.int x1), .val (.int x2)] [] := by first | (simp [entryFrame, mkF, argsToLocals, Value.category]; done) | rfl
def Pr (Z : State) (q0 : Addr) (k0 : ClassId) (cq : Int32) (x0 : Int32) (x1 : Int32) (x2 : Int32) (x3 : Int32) (x4 : Int32) (x5 : Int32) (x6 : Int32) (x7 : Int32) (Ba : Int32) (Aa : Value) (h0 : Heap) (n0 : Nat) (v : Option Value) (h : Heap) (L : List Loc) : Prop := v = none ∧ Fr n0 L ∧ Old Z n0 h ∧ Keep h0 h [q0] ∧ Arv Z h q0 k0 .byte (8 : Int32) [(.int x0), (.int x1), (.int x2), (.int x3), (.int ((cq >>> ((0 : Int32) &&& 31)).toInt8.toInt32)), (.int ((cq >>> ((8 : Int32) &&& 31)).toInt8.toInt32)), (.int x6), (.int x7)] (.int 0)
set_option maxRecDepth 65536 in
set_option maxHeartbeats 40000000 in
theorem Mv (l : Launch) (Z : State) (a0 : Array Value) (hw : ∀ d ∈ tables_1, d.before a0 Z = true) (ws : List Jvm.Cond) (q0 : Addr) (k0 : ClassId) (cq : Int32) (x0 : Int32) (x1 : Int32) (x2 : Int32) (x3 : Int32) (x4 : Int32) (x5 : Int32) (x6 : Int32) (x7 : Int32) (Ba : Int32) (Aa : Value) (h0 : Heap) (n0 : Nat) (O0 : Old Z n0 h0) (hE : EV Z Ba Aa) (P0 : Arv Z h0 q0 k0 .byte (8 : Int32) [(.int x0), (.int x1), (.int x2), (.int x3), (.int x4), (.int x5), (.int x6), (.int x7)] (.int 0)) (g_q0 : n0 ≤ q0) :
    MetFree l Gi (head1 (Jvm.Cond.code Gi jdk_52_method_4_code 3 none :: ws) ({ frames := 0, cells := 0, slots := 0, locals := 0 } : Room)) (fun a U => a = #[(.ref q0), (.int 2), (.int cq)] ∧ Z.Warmed39 U.vm ∧ U.heap = h0) (fun _ _ _ _ _ => True) (fun _ U o U' => ∃ v L, o = .returned v ∧ Pr Z q0 k0 cq x0 x1 x2 x3 x4 x5 x6 x7 Ba Aa h0 n0 v U'.heap L ∧ FrameEnd U o U' L ({ frames := 0, cells := 0, slots := 0, locals := 0 } : Room).cells ({ frames := 0, cells := 0, slots := 0, locals := 0 } : Room).slots) := by
  refine MetFree.of_bodySF (plainFor_of_name Pa) hisR ?_
  intro p e s m args below meth c s₁ Bd hml0 hP hK
  obtain ⟨rfl, hZ, hh⟩ := hP
  have hx := Bd.exec
  have hby := Bd.bytes
  have hml : c.maxLocals = 3 := hml0
  have hown : s.vm.findClass "java/lang/StringUTF16" = some m.cls := findClass_of_methodNamed Bd.named
  have hnm := (name_of_methodNamed Bd.named Bd.method).1
  have X00 : Stand p l e ({ frames := 0, cells := 0, slots := 0, locals := 0 } : Room) s m #[(.ref q0), (.int 2), (.int cq)] below meth c s₁ [] 0 0 := Stand.of_body Bd
  have e00 : s₁.heap = h0 := by rw [← hh, Bd.state]; rfl
  have N00 := Fr.nil n0
  refine Classical.byContradiction fun hNG => ?_
  have K00 := Keep.refl h0 [q0]
  have k00 : ∀ t, Ga p e below m s₁ 0 #[.val (.ref q0), .val (.int 2), .val (.int cq)] [] t → Ra p e below m s₁ #[(.ref q0), (.int 2), (.int cq)] 3 t := fun t k => castTop (Lv m q0 ((2 : Int32)) cq ) k
  obtain ⟨Ua, La, Va, Ma, Ha, Ia, Ka⟩ := (id hE : EV Z Ba Aa)
  obtain ⟨T10, X10, e10, st10⟩ := getS2 X00 hx hZ hown (host := "") (Or.inl (Da hw 60 rfl)) Via.refl e00 (Ha.ext O0.2) (g := (mkF m 0 #[.val (.ref q0), .val (.int 2), .val (.int cq)] [])) rfl (hb hby Rg)
  obtain ⟨T11, X11, e11, st11⟩ := getS2 X10 hx hZ hown (host := "") (Or.inl (Da hw 61 rfl)) Via.refl e10 (Ia.ext O0.2) (g := (mkF m 38 #[.val (.ref q0), .val (.int 5), .val (.int cq)] [(.int cq), (.int 4), (.ref q0)])) rfl (hb hby Le)
  obtain ⟨cl12, Ar12, q12, Sz12, Nn12, Hs12, Gf12⟩ := id P0
  have hin13 : ¬ ((4 : Int32) < 0 ∨ cl12.slots.size ≤ ((4 : Int32)).toNatClampNeg) := inb_of Sz12 ⟨by decide, by decide⟩
  obtain ⟨T14, h14, X14, e14, W14, st14⟩ := stB X11 hx hZ e11 Ar12 (j := (4 : Int32)) hin13 (g := (mkF m 43 #[.val (.ref q0), .val (.int 5), .val (.int cq)] [(.int ((cq >>> ((0 : Int32) &&& 31)).toInt8.toInt32)), (.int 4), (.ref q0)])) rfl rfl (hb hby Re)
  have V14 : Arv Z h14 q0 k0 .byte (8 : Int32) [(.int x0), (.int x1), (.int x2), (.int x3), (.int ((cq >>> ((0 : Int32) &&& 31)).toInt8.toInt32)), (.int x5), (.int x6), (.int x7)] (.int 0) := by
    have q := Arv.set Ar12 q12 Sz12 Nn12 Hs12 Gf12 (fits_nar_byte _) W14 4 rfl (Nat.le_of_ble_eq_true rfl)
    first | exact q | (simp only [Yi, Di] at q; exact q)
  have N14 := Fr.snoc X14 N00 g_q0
  have O14 := O0.wr W14 g_q0
  have K14 := K00.wr W14 (Or.inl (List.mem_of_getElem? (i := 0) rfl))
  obtain ⟨T15, X15, e15, st15⟩ := getS2 X14 hx hZ hown (host := "") (Or.inl (Da hw 62 rfl)) Via.refl e14 (Ka.ext O14.2) (g := (mkF m 47 #[.val (.ref q0), .val (.int 5), .val (.int cq)] [(.int cq), (.int 5), (.ref q0)])) rfl (hb hby Ye)
  obtain ⟨cl16, Ar16, q16, Sz16, Nn16, Hs16, Gf16⟩ := id V14
  have hin17 : ¬ ((5 : Int32) < 0 ∨ cl16.slots.size ≤ ((5 : Int32)).toNatClampNeg) := inb_of Sz16 ⟨by decide, by decide⟩
  obtain ⟨T18, h18, X18, e18, W18, st18⟩ := stB X15 hx hZ e15 Ar16 (j := (5 : Int32)) hin17 (g := (mkF m 52 #[.val (.ref q0), .val (.int 5), .val (.int cq)] [(.int ((cq >>> ((8 : Int32) &&& 31)).toInt8.toInt32)), (.int 5), (.ref q0)])) rfl rfl (hb hby Bf)
  have V18 : Arv Z h18 q0 k0 .byte (8 : Int32) [(.int x0), (.int x1), (.int x2), (.int x3), (.int ((cq >>> ((0 : Int32) &&& 31)).toInt8.toInt32)), (.int ((cq >>> ((8 : Int32) &&& 31)).toInt8.toInt32)), (.int x6), (.int x7)] (.int 0) := by
    have q := Arv.set Ar16 q16 Sz16 Nn16 Hs16 Gf16 (fits_nar_byte _) W18 5 rfl (Nat.le_of_ble_eq_true rfl)
    first | exact q | (simp only [Yi, Di] at q; exact q)
  have N18 := Fr.snoc X18 N14 g_q0
  have O18 := O14.wr W18 g_q0
  have K18 := K14.wr W18 (Or.inl (List.mem_of_getElem? (i := 0) rfl))
  have k19 : ∀ t, Ga p e below m T18 53 #[.val (.ref q0), .val (.int 5), .val (.int cq)] [] t → Ra p e below m s₁ #[(.ref q0), (.int 2), (.int cq)] 3 t := by
    intro t k
    refine k00 t ?_
    refine st10 _ ?_
    refine XS.ifYes X10.here hx rfl (pc0 := 3) (pc' := 28) rfl (hb hby Ug) rfl ((if0 _ _).trans (feq (by decide : ¬ ((1 : Int32) = (0 : Int32)))).2) (by decide) (by decide) ?_
    refine XS.iloadN X10.here hx rfl (hb hby Zd) rfl ?_
    refine XS.iconst X10.here hx rfl (hb hby Ae) ?_
    refine XS.ishl X10.here hx rfl (hb hby Be) rfl ?_
    show Ga p e below m T10 31 #[.val (.ref q0), .val (.int 2), .val (.int cq)] [(.int ((2 : Int32) <<< ((1 : Int32) &&& 31)))] t
    rw [show ((2 : Int32) <<< ((1 : Int32) &&& 31)) = (4 : Int32) from by decide]
    refine XS.istoreN X10.here hx rfl (hb hby De) rfl (l' := #[.val (.ref q0), .val (.int 4), .val (.int cq)]) rfl ?_
    refine XS.aloadN X10.here hx rfl (hb hby Ge) rfl rfl ?_
    show Ga p e below m T10 33 #[.val (.ref q0), .val (.int 4), .val (.int cq)] [(.ref q0)] t
    refine XS.iloadN X10.here hx rfl (hb hby He) rfl ?_
    refine XS.iinc X10.here hx rfl (hb hby Ie) rfl (l' := #[.val (.ref q0), .val (.int ((4 : Int32) + (1 : Int32))), .val (.int cq)]) rfl ?_
    show Ga p e below m T10 37 #[.val (.ref q0), .val (.int ((4 : Int32) + (1 : Int32))), .val (.int cq)] [(.int 4), (.ref q0)] t
    rw [show ((4 : Int32) + (1 : Int32)) = (5 : Int32) from by decide]
    refine XS.iloadN X10.here hx rfl (hb hby Ke) rfl ?_
    refine st11 _ ?_
    refine XS.ishr X11.here hx rfl (hb hby Me) rfl ?_
    refine XS.i2b X11.here hx rfl (hb hby Pe) rfl ?_
    refine st14 _ ?_
    show Ga p e below m T14 44 #[.val (.ref q0), .val (.int 5), .val (.int cq)] [] t
    refine XS.aloadN X14.here hx rfl (hb hby Ue) rfl rfl ?_
    refine XS.iloadN X14.here hx rfl (hb hby Ve) rfl ?_
    refine XS.iloadN X14.here hx rfl (hb hby We) rfl ?_
    refine st15 _ ?_
    refine XS.ishr X15.here hx rfl (hb hby Ze) rfl ?_
    refine XS.i2b X15.here hx rfl (hb hby Af) rfl ?_
    refine st18 _ ?_
    exact k
  obtain ⟨fs, hr, hrun, hended, hW, hsame⟩ := X18.leave (v := none) (fun _ => rfl)
  refine hNG ⟨_, _, k19 _ ?_, hrun, hended, _, _, rfl, ?_, ⟨_, rfl⟩, hW, hsame.mono (by decide) (by decide)⟩
  · exact X18.returnOut hx Bd.returns (hb hby Df) hr
  · show Pr Z q0 k0 cq x0 x1 x2 x3 x4 x5 x6 x7 Ba Aa h0 n0 _ T18.heap _
    rw [e18]
    exact ⟨rfl, N18, O18, K18, V18⟩
theorem Pv (m : MethodId) (x0 : Addr) (x1 : Int32) (x2 : Int32)  : entryFrame m #[(.ref x0), (.int x1), (.int x2)] 3 = mkF m 0 #[.val (.ref x0), .val (.int x1), .val (.int x2)] [] := by first | (simp [entryFrame, mkF, argsToLocals, Value.category]; done) | rfl
def Rr (Z : State) (q0 : Addr) (k0 : ClassId) (cq : Int32) (x0 : Int32) (x1 : Int32) (x2 : Int32) (x3 : Int32) (x4 : Int32) (x5 : Int32) (x6 : Int32) (x7 : Int32) (Ba : Int32) (Aa : Value) (h0 : Heap) (n0 : Nat) (v : Option Value) (h : Heap) (L : List Loc) : Prop := v = none ∧ Fr n0 L ∧ Old Z n0 h ∧ Keep h0 h [q0] ∧ Arv Z h q0 k0 .byte (8 : Int32) [(.int x0), (.int x1), (.int x2), (.int x3), (.int x4), (.int x5), (.int ((cq >>> ((0 : Int32) &&& 31)).toInt8.toInt32)), (.int ((cq >>> ((8 : Int32) &&& 31)).toInt8.toInt32))] (.int 0)
set_option maxRecDepth 65536 in
set_option maxHeartbeats 40000000 in
theorem Rv (l : Launch) (Z : State) (a0 : Array Value) (hw : ∀ d ∈ tables_1, d.before a0 Z = true) (ws : List Jvm.Cond) (q0 : Addr) (k0 : ClassId) (cq : Int32) (x0 : Int32) (x1 : Int32) (x2 : Int32) (x3 : Int32) (x4 : Int32) (x5 : Int32) (x6 : Int32) (x7 : Int32) (Ba : Int32) (Aa : Value) (h0 : Heap) (n0 : Nat) (O0 : Old Z n0 h0) (hE : EV Z Ba Aa) (P0 : Arv Z h0 q0 k0 .byte (8 : Int32) [(.int x0), (.int x1), (.int x2), (.int x3), (.int x4), (.int x5), (.int x6), (.int x7)] (.int 0)) (g_q0 : n0 ≤ q0) :
    MetFree l Gi (head1 (Jvm.Cond.code Gi jdk_52_method_4_code 3 none :: ws) ({ frames := 0, cells := 0, slots := 0, locals := 0 } : Room)) (fun a U => a = #[(.ref q0), (.int 3), (.int cq)] ∧ Z.Warmed39 U.vm ∧ U.heap = h0) (fun _ _ _ _ _ => True) (fun _ U o U' => ∃ v L, o = .returned v ∧ Rr Z q0 k0 cq x0 x1 x2 x3 x4 x5 x6 x7 Ba Aa h0 n0 v U'.heap L ∧ FrameEnd U o U' L ({ frames := 0, cells := 0, slots := 0, locals := 0 } : Room).cells ({ frames := 0, cells := 0, slots := 0, locals := 0 } : Room).slots) := by
  refine MetFree.of_bodySF (plainFor_of_name Pa) hisR ?_
  intro p e s m args below meth c s₁ Bd hml0 hP hK
  obtain ⟨rfl, hZ, hh⟩ := hP
  have hx := Bd.exec
  have hby := Bd.bytes
  have hml : c.maxLocals = 3 := hml0
  have hown : s.vm.findClass "java/lang/StringUTF16" = some m.cls := findClass_of_methodNamed Bd.named
  have hnm := (name_of_methodNamed Bd.named Bd.method).1
  have X00 : Stand p l e ({ frames := 0, cells := 0, slots := 0, locals := 0 } : Room) s m #[(.ref q0), (.int 3), (.int cq)] below meth c s₁ [] 0 0 := Stand.of_body Bd
  have e00 : s₁.heap = h0 := by rw [← hh, Bd.state]; rfl
  have N00 := Fr.nil n0
  refine Classical.byContradiction fun hNG => ?_
  have K00 := Keep.refl h0 [q0]
  have k00 : ∀ t, Ga p e below m s₁ 0 #[.val (.ref q0), .val (.int 3), .val (.int cq)] [] t → Ra p e below m s₁ #[(.ref q0), (.int 3), (.int cq)] 3 t := fun t k => castTop (Pv m q0 ((3 : Int32)) cq ) k
  obtain ⟨Ua, La, Va, Ma, Ha, Ia, Ka⟩ := (id hE : EV Z Ba Aa)
  obtain ⟨T10, X10, e10, st10⟩ := getS2 X00 hx hZ hown (host := "") (Or.inl (Da hw 60 rfl)) Via.refl e00 (Ha.ext O0.2) (g := (mkF m 0 #[.val (.ref q0), .val (.int 3), .val (.int cq)] [])) rfl (hb hby Rg)
  obtain ⟨T11, X11, e11, st11⟩ := getS2 X10 hx hZ hown (host := "") (Or.inl (Da hw 61 rfl)) Via.refl e10 (Ia.ext O0.2) (g := (mkF m 38 #[.val (.ref q0), .val (.int 7), .val (.int cq)] [(.int cq), (.int 6), (.ref q0)])) rfl (hb hby Le)
  obtain ⟨cl12, Ar12, q12, Sz12, Nn12, Hs12, Gf12⟩ := id P0
  have hin13 : ¬ ((6 : Int32) < 0 ∨ cl12.slots.size ≤ ((6 : Int32)).toNatClampNeg) := inb_of Sz12 ⟨by decide, by decide⟩
  obtain ⟨T14, h14, X14, e14, W14, st14⟩ := stB X11 hx hZ e11 Ar12 (j := (6 : Int32)) hin13 (g := (mkF m 43 #[.val (.ref q0), .val (.int 7), .val (.int cq)] [(.int ((cq >>> ((0 : Int32) &&& 31)).toInt8.toInt32)), (.int 6), (.ref q0)])) rfl rfl (hb hby Re)
  have V14 : Arv Z h14 q0 k0 .byte (8 : Int32) [(.int x0), (.int x1), (.int x2), (.int x3), (.int x4), (.int x5), (.int ((cq >>> ((0 : Int32) &&& 31)).toInt8.toInt32)), (.int x7)] (.int 0) := by
    have q := Arv.set Ar12 q12 Sz12 Nn12 Hs12 Gf12 (fits_nar_byte _) W14 6 rfl (Nat.le_of_ble_eq_true rfl)
    first | exact q | (simp only [Yi, Di] at q; exact q)
  have N14 := Fr.snoc X14 N00 g_q0
  have O14 := O0.wr W14 g_q0
  have K14 := K00.wr W14 (Or.inl (List.mem_of_getElem? (i := 0) rfl))
  obtain ⟨T15, X15, e15, st15⟩ := getS2 X14 hx hZ hown (host := "") (Or.inl (Da hw 62 rfl)) Via.refl e14 (Ka.ext O14.2) (g := (mkF m 47 #[.val (.ref q0), .val (.int 7), .val (.int cq)] [(.int cq), (.int 7), (.ref q0)])) rfl (hb hby Ye)
  obtain ⟨cl16, Ar16, q16, Sz16, Nn16, Hs16, Gf16⟩ := id V14
  have hin17 : ¬ ((7 : Int32) < 0 ∨ cl16.slots.size ≤ ((7 : Int32)).toNatClampNeg) := inb_of Sz16 ⟨by decide, by decide⟩
  obtain ⟨T18, h18, X18, e18, W18, st18⟩ := stB X15 hx hZ e15 Ar16 (j := (7 : Int32)) hin17 (g := (mkF m 52 #[.val (.ref q0), .val (.int 7), .val (.int cq)] [(.int ((cq >>> ((8 : Int32) &&& 31)).toInt8.toInt32)), (.int 7), (.ref q0)])) rfl rfl (hb hby Bf)
  have V18 : Arv Z h18 q0 k0 .byte (8 : Int32) [(.int x0), (.int x1), (.int x2), (.int x3), (.int x4), (.int x5), (.int ((cq >>> ((0 : Int32) &&& 31)).toInt8.toInt32)), (.int ((cq >>> ((8 : Int32) &&& 31)).toInt8.toInt32))] (.int 0) := by
    have q := Arv.set Ar16 q16 Sz16 Nn16 Hs16 Gf16 (fits_nar_byte _) W18 7 rfl (Nat.le_of_ble_eq_true rfl)
    first | exact q | (simp only [Yi, Di] at q; exact q)
  have N18 := Fr.snoc X18 N14 g_q0
  have O18 := O14.wr W18 g_q0
  have K18 := K14.wr W18 (Or.inl (List.mem_of_getElem? (i := 0) rfl))
  have k19 : ∀ t, Ga p e below m T18 53 #[.val (.ref q0), .val (.int 7), .val (.int cq)] [] t → Ra p e below m s₁ #[(.ref q0), (.int 3), (.int cq)] 3 t := by
    intro t k
    refine k00 t ?_
    refine st10 _ ?_
    refine XS.ifYes X10.here hx rfl (pc0 := 3) (pc' := 28) rfl (hb hby Ug) rfl ((if0 _ _).trans (feq (by decide : ¬ ((1 : Int32) = (0 : Int32)))).2) (by decide) (by decide) ?_
    refine XS.iloadN X10.here hx rfl (hb hby Zd) rfl ?_
    refine XS.iconst X10.here hx rfl (hb hby Ae) ?_
    refine XS.ishl X10.here hx rfl (hb hby Be) rfl ?_
    show Ga p e below m T10 31 #[.val (.ref q0), .val (.int 3), .val (.int cq)] [(.int ((3 : Int32) <<< ((1 : Int32) &&& 31)))] t
    rw [show ((3 : Int32) <<< ((1 : Int32) &&& 31)) = (6 : Int32) from by decide]
    refine XS.istoreN X10.here hx rfl (hb hby De) rfl (l' := #[.val (.ref q0), .val (.int 6), .val (.int cq)]) rfl ?_
    refine XS.aloadN X10.here hx rfl (hb hby Ge) rfl rfl ?_
    show Ga p e below m T10 33 #[.val (.ref q0), .val (.int 6), .val (.int cq)] [(.ref q0)] t
    refine XS.iloadN X10.here hx rfl (hb hby He) rfl ?_
    refine XS.iinc X10.here hx rfl (hb hby Ie) rfl (l' := #[.val (.ref q0), .val (.int ((6 : Int32) + (1 : Int32))), .val (.int cq)]) rfl ?_
    show Ga p e below m T10 37 #[.val (.ref q0), .val (.int ((6 : Int32) + (1 : Int32))), .val (.int cq)] [(.int 6), (.ref q0)] t
    rw [show ((6 : Int32) + (1 : Int32)) = (7 : Int32) from by decide]
    refine XS.iloadN X10.here hx rfl (hb hby Ke) rfl ?_
    refine st11 _ ?_
    refine XS.ishr X11.here hx rfl (hb hby Me) rfl ?_
    refine XS.i2b X11.here hx rfl (hb hby Pe) rfl ?_
    refine st14 _ ?_
    show Ga p e below m T14 44 #[.val (.ref q0), .val (.int 7), .val (.int cq)] [] t
    refine XS.aloadN X14.here hx rfl (hb hby Ue) rfl rfl ?_
    refine XS.iloadN X14.here hx rfl (hb hby Ve) rfl ?_
    refine XS.iloadN X14.here hx rfl (hb hby We) rfl ?_
    refine st15 _ ?_
    refine XS.ishr X15.here hx rfl (hb hby Ze) rfl ?_
    refine XS.i2b X15.here hx rfl (hb hby Af) rfl ?_
    refine st18 _ ?_
    exact k
  obtain ⟨fs, hr, hrun, hended, hW, hsame⟩ := X18.leave (v := none) (fun _ => rfl)
  refine hNG ⟨_, _, k19 _ ?_, hrun, hended, _, _, rfl, ?_, ⟨_, rfl⟩, hW, hsame.mono (by decide) (by decide)⟩
  · exact X18.returnOut hx Bd.returns (hb hby Df) hr
  · show Rr Z q0 k0 cq x0 x1 x2 x3 x4 x5 x6 x7 Ba Aa h0 n0 _ T18.heap _
    rw [e18]
    exact ⟨rfl, N18, O18, K18, V18⟩
theorem Yy (m : MethodId) (x0 : Addr) (x1 : Int32) (x2 : Int32)  : entryFrame m #[(.ref x0), (.int x1), (.int x2)] 5 = mkF m 0 #[.val (.ref x0), .val (.int x1), .val (.int x2), .unset, .unset] [] := by first | (simp [entryFrame, mkF, argsToLocals, Value.category]; done) | rfl
def Us (Z : State) (t0 : Addr) (k0 : ClassId) (c0 : Int32) (c1 : Int32) (c2 : Int32) (c3 : Int32) (Ba : Int32) (Aa : Value) (h0 : Heap) (n0 : Nat) (v : Option Value) (h : Heap) (L : List Loc) : Prop := ∃ (b : Addr) (k : ClassId), v = some (.ref b) ∧ Fr n0 L ∧ Old Z n0 h ∧ Keep h0 h [] ∧ n0 ≤ b ∧ h0.size ≤ b ∧ Arv Z h b k .byte (8 : Int32) [(.int ((c0 >>> ((0 : Int32) &&& 31)).toInt8.toInt32)), (.int ((c0 >>> ((8 : Int32) &&& 31)).toInt8.toInt32)), (.int ((c1 >>> ((0 : Int32) &&& 31)).toInt8.toInt32)), (.int ((c1 >>> ((8 : Int32) &&& 31)).toInt8.toInt32)), (.int ((c2 >>> ((0 : Int32) &&& 31)).toInt8.toInt32)), (.int ((c2 >>> ((8 : Int32) &&& 31)).toInt8.toInt32)), (.int ((c3 >>> ((0 : Int32) &&& 31)).toInt8.toInt32)), (.int ((c3 >>> ((8 : Int32) &&& 31)).toInt8.toInt32))] (.int 0)
set_option maxRecDepth 65536 in
set_option maxHeartbeats 40000000 in
theorem Ap (l : Launch) (Z : State) (a0 : Array Value) (hw : ∀ d ∈ tables_1, d.before a0 Z = true) (ws : List Jvm.Cond) (t0 : Addr) (k0 : ClassId) (c0 : Int32) (c1 : Int32) (c2 : Int32) (c3 : Int32) (Ba : Int32) (Aa : Value) (h0 : Heap) (n0 : Nat) (O0 : Old Z n0 h0) (hE : EV Z Ba Aa) (P0 : Arv Z h0 t0 k0 .char (4 : Int32) [(.int c0), (.int c1), (.int c2), (.int c3)] (.int 0)) :
    MetFree l Am (head1 (Jvm.Cond.code Am jdk_52_method_14_code 5 (some (.array .byte)) :: ws) ({ frames := 2, cells := 1, slots := 8, locals := 24 } : Room)) (fun a U => a = #[(.ref t0), (.int 0), (.int 4)] ∧ Z.Warmed39 U.vm ∧ U.heap = h0) (fun _ _ _ _ _ => True) (fun _ U o U' => ∃ v L, o = .returned v ∧ Us Z t0 k0 c0 c1 c2 c3 Ba Aa h0 n0 v U'.heap L ∧ FrameEnd U o U' L ({ frames := 2, cells := 1, slots := 8, locals := 24 } : Room).cells ({ frames := 2, cells := 1, slots := 8, locals := 24 } : Room).slots) := by
  refine MetFree.of_bodySF (plainFor_of_name Pa) hisR ?_
  intro p e s m args below meth c s₁ Bd hml0 hP hK
  obtain ⟨rfl, hZ, hh⟩ := hP
  have hx := Bd.exec
  have hby := Bd.bytes
  have hml : c.maxLocals = 5 := hml0
  have hown : s.vm.findClass "java/lang/StringUTF16" = some m.cls := findClass_of_methodNamed Bd.named
  have hnm := (name_of_methodNamed Bd.named Bd.method).1
  have X00 : Stand p l e ({ frames := 2, cells := 1, slots := 8, locals := 24 } : Room) s m #[(.ref t0), (.int 0), (.int 4)] below meth c s₁ [] 0 0 := Stand.of_body Bd
  have e00 : s₁.heap = h0 := by rw [← hh, Bd.state]; rfl
  have N00 := Fr.nil n0
  refine Classical.byContradiction fun hNG => ?_
  have K00 := Keep.refl h0 []
  have k00 : ∀ t, Ga p e below m s₁ 0 #[.val (.ref t0), .val (.int 0), .val (.int 4), .unset, .unset] [] t → Ra p e below m s₁ #[(.ref t0), (.int 0), (.int 4)] 5 t := fun t k => castTop (Yy m t0 ((0 : Int32)) ((4 : Int32)) ) k
  obtain ⟨Ua, La, Va, Ma, Ha, Ia, Ka⟩ := (id hE : EV Z Ba Aa)
  obtain ⟨_, _, ⟨T10, L10, k10, n10⟩, -, X10, ⟨Lc10, hQ10, l10, y10, z10⟩, st10⟩ := Jvm.LawKit.callS X00 hx (y := Pm) hown (mvT hZ (Da hw 50 rfl)) (mvT hZ (Da hw 51 rfl)) (mvT hZ (Da hw 18 rfl)) (mvT hZ (Da hw 52 rfl)) (by decide) (backOf (W := 0) (Wy l Z a0 hw []  _ _ h0 n0 O0 hE  ) hZ (Da hw 52 rfl) (Da hw 18 rfl) (by decide) (by decide)) (g := (mkF m 1 #[.val (.ref t0), .val (.int 0), .val (.int 4), .unset, .unset] [(.int 4)])) rfl (by rw [hml]; rfl) (argsL := [(.int 4)]) (rest := []) (lenOf Zo rfl) rfl (by show 2 * 0 + _ ≤ _; exact Nat.le_of_eq rfl) (hb hby Hk) (fun _ _ => ⟨rfl, e00, (by decide : 0 + 1 ≤ _), (by decide : 0 + 8 ≤ _)⟩)
  dsimp only [Pt.U, Pt.locs, Pt.cells, Pt.slots] at X10 l10 y10 z10 st10 hQ10
  subst l10 y10 z10
  obtain ⟨b10, k10, rfl, N10q, O10, Kc10, g_b10, gs_b10, F10_0⟩ := hQ10
  have N10 := Fr.app N00 N10q
  have K10 := K00.trans Kc10 (fun x hx => nomatch hx)
  have s_b10 := Nat.le_trans K00.1 gs_b10
  have lt_b10 := F10_0.lt
  have f11 := (P0.keep Kc10 List.not_mem_nil)
  obtain ⟨cl12, Ar12, q12, Sz12, Nn12, Hs12, Gf12⟩ := id f11
  have hin13 : ¬ ((0 : Int32) < 0 ∨ cl12.slots.size ≤ ((0 : Int32)).toNatClampNeg) := inb_of Sz12 ⟨by decide, by decide⟩
  have hat14 : cl12.slots[((0 : Int32)).toNatClampNeg]? = some (.int c0) := Hs12.at hin13 rfl
  obtain ⟨_, _, ⟨T15, L15, k15, n15⟩, -, X15, ⟨Lc15, hQ15, l15, y15, z15⟩, st15⟩ := Jvm.LawKit.callS X10 hx (y := Gi) hown (mvT hZ (Da hw 57 rfl)) (mvT hZ (Da hw 58 rfl)) (mvT hZ (Da hw 18 rfl)) (mvT hZ (Da hw 59 rfl)) (by decide) (backOf (W := 0) (Hv l Z a0 hw [] b10 k10 c0 (0 : Int32) (0 : Int32) (0 : Int32) (0 : Int32) (0 : Int32) (0 : Int32) (0 : Int32) (0 : Int32) _ _ T10.heap n0 O10 hE F10_0 g_b10 ) hZ (Da hw 59 rfl) (Da hw 18 rfl) (by decide) (by decide)) (g := (mkF m 20 #[.val (.ref t0), .val (.int 0), .val (.int 4), .val (.ref b10), .val (.int 0)] [(.int c0), (.int 0), (.ref b10)])) rfl (by rw [hml]; rfl) (argsL := [(.ref b10), (.int 0), (.int c0)]) (rest := []) (lenOf Bm rfl) rfl (by show 2 * 0 + _ ≤ _; exact Nat.le_of_eq rfl) (hb hby Yc) (fun _ _ => ⟨rfl, rfl, (by decide : 1 + 0 ≤ _), (by decide : 8 + 0 ≤ _)⟩)
  dsimp only [Pt.U, Pt.locs, Pt.cells, Pt.slots] at X15 l15 y15 z15 st15 hQ15
  subst l15 y15 z15
  obtain ⟨rfl, N15q, O15, Kc15, F15_0⟩ := hQ15
  have N15 := Fr.app N10 N15q
  have K15 := K10.trans Kc15 (allS (Or.inr s_b10) all0)
  have ne16 : ¬ (t0 = b10) := (Nat.ne_of_lt (Nat.lt_of_lt_of_le P0.lt gs_b10))
  have f17 := (f11.keep Kc15 (fun q => ne16 (List.mem_singleton.mp q)))
  obtain ⟨cl18, Ar18, q18, Sz18, Nn18, Hs18, Gf18⟩ := id f17
  have hin19 : ¬ ((1 : Int32) < 0 ∨ cl18.slots.size ≤ ((1 : Int32)).toNatClampNeg) := inb_of Sz18 ⟨by decide, by decide⟩
  have hat20 : cl18.slots[((1 : Int32)).toNatClampNeg]? = some (.int c1) := Hs18.at hin19 rfl
  obtain ⟨_, _, ⟨T21, L21, k21, n21⟩, -, X21, ⟨Lc21, hQ21, l21, y21, z21⟩, st21⟩ := Jvm.LawKit.callS X15 hx (y := Gi) hown (mvT hZ (Da hw 57 rfl)) (mvT hZ (Da hw 58 rfl)) (mvT hZ (Da hw 18 rfl)) (mvT hZ (Da hw 59 rfl)) (by decide) (backOf (W := 0) (Kv l Z a0 hw [] b10 k10 c1 ((c0 >>> ((0 : Int32) &&& 31)).toInt8.toInt32) ((c0 >>> ((8 : Int32) &&& 31)).toInt8.toInt32) (0 : Int32) (0 : Int32) (0 : Int32) (0 : Int32) (0 : Int32) (0 : Int32) _ _ T15.heap n0 O15 hE F15_0 g_b10 ) hZ (Da hw 59 rfl) (Da hw 18 rfl) (by decide) (by decide)) (g := (mkF m 20 #[.val (.ref t0), .val (.int 1), .val (.int 4), .val (.ref b10), .val (.int 1)] [(.int c1), (.int 1), (.ref b10)])) rfl (by rw [hml]; rfl) (argsL := [(.ref b10), (.int 1), (.int c1)]) (rest := []) (lenOf Bm rfl) rfl (by show 2 * 0 + _ ≤ _; exact Nat.le_of_eq rfl) (hb hby Yc) (fun _ _ => ⟨rfl, rfl, (by decide : 1 + 0 ≤ _), (by decide : 8 + 0 ≤ _)⟩)
  dsimp only [Pt.U, Pt.locs, Pt.cells, Pt.slots] at X21 l21 y21 z21 st21 hQ21
  subst l21 y21 z21
  obtain ⟨rfl, N21q, O21, Kc21, F21_0⟩ := hQ21
  have N21 := Fr.app N15 N21q
  have K21 := K15.trans Kc21 (allS (Or.inr s_b10) all0)
  have f22 := (f17.keep Kc21 (fun q => ne16 (List.mem_singleton.mp q)))
  obtain ⟨cl23, Ar23, q23, Sz23, Nn23, Hs23, Gf23⟩ := id f22
  have hin24 : ¬ ((2 : Int32) < 0 ∨ cl23.slots.size ≤ ((2 : Int32)).toNatClampNeg) := inb_of Sz23 ⟨by decide, by decide⟩
  have hat25 : cl23.slots[((2 : Int32)).toNatClampNeg]? = some (.int c2) := Hs23.at hin24 rfl
  obtain ⟨_, _, ⟨T26, L26, k26, n26⟩, -, X26, ⟨Lc26, hQ26, l26, y26, z26⟩, st26⟩ := Jvm.LawKit.callS X21 hx (y := Gi) hown (mvT hZ (Da hw 57 rfl)) (mvT hZ (Da hw 58 rfl)) (mvT hZ (Da hw 18 rfl)) (mvT hZ (Da hw 59 rfl)) (by decide) (backOf (W := 0) (Mv l Z a0 hw [] b10 k10 c2 ((c0 >>> ((0 : Int32) &&& 31)).toInt8.toInt32) ((c0 >>> ((8 : Int32) &&& 31)).toInt8.toInt32) ((c1 >>> ((0 : Int32) &&& 31)).toInt8.toInt32) ((c1 >>> ((8 : Int32) &&& 31)).toInt8.toInt32) (0 : Int32) (0 : Int32) (0 : Int32) (0 : Int32) _ _ T21.heap n0 O21 hE F21_0 g_b10 ) hZ (Da hw 59 rfl) (Da hw 18 rfl) (by decide) (by decide)) (g := (mkF m 20 #[.val (.ref t0), .val (.int 2), .val (.int 4), .val (.ref b10), .val (.int 2)] [(.int c2), (.int 2), (.ref b10)])) rfl (by rw [hml]; rfl) (argsL := [(.ref b10), (.int 2), (.int c2)]) (rest := []) (lenOf Bm rfl) rfl (by show 2 * 0 + _ ≤ _; exact Nat.le_of_eq rfl) (hb hby Yc) (fun _ _ => ⟨rfl, rfl, (by decide : 1 + 0 ≤ _), (by decide : 8 + 0 ≤ _)⟩)
  dsimp only [Pt.U, Pt.locs, Pt.cells, Pt.slots] at X26 l26 y26 z26 st26 hQ26
  subst l26 y26 z26
  obtain ⟨rfl, N26q, O26, Kc26, F26_0⟩ := hQ26
  have N26 := Fr.app N21 N26q
  have K26 := K21.trans Kc26 (allS (Or.inr s_b10) all0)
  have f27 := (f22.keep Kc26 (fun q => ne16 (List.mem_singleton.mp q)))
  obtain ⟨cl28, Ar28, q28, Sz28, Nn28, Hs28, Gf28⟩ := id f27
  have hin29 : ¬ ((3 : Int32) < 0 ∨ cl28.slots.size ≤ ((3 : Int32)).toNatClampNeg) := inb_of Sz28 ⟨by decide, by decide⟩
  have hat30 : cl28.slots[((3 : Int32)).toNatClampNeg]? = some (.int c3) := Hs28.at hin29 rfl
  obtain ⟨_, _, ⟨T31, L31, k31, n31⟩, -, X31, ⟨Lc31, hQ31, l31, y31, z31⟩, st31⟩ := Jvm.LawKit.callS X26 hx (y := Gi) hown (mvT hZ (Da hw 57 rfl)) (mvT hZ (Da hw 58 rfl)) (mvT hZ (Da hw 18 rfl)) (mvT hZ (Da hw 59 rfl)) (by decide) (backOf (W := 0) (Rv l Z a0 hw [] b10 k10 c3 ((c0 >>> ((0 : Int32) &&& 31)).toInt8.toInt32) ((c0 >>> ((8 : Int32) &&& 31)).toInt8.toInt32) ((c1 >>> ((0 : Int32) &&& 31)).toInt8.toInt32) ((c1 >>> ((8 : Int32) &&& 31)).toInt8.toInt32) ((c2 >>> ((0 : Int32) &&& 31)).toInt8.toInt32) ((c2 >>> ((8 : Int32) &&& 31)).toInt8.toInt32) (0 : Int32) (0 : Int32) _ _ T26.heap n0 O26 hE F26_0 g_b10 ) hZ (Da hw 59 rfl) (Da hw 18 rfl) (by decide) (by decide)) (g := (mkF m 20 #[.val (.ref t0), .val (.int 3), .val (.int 4), .val (.ref b10), .val (.int 3)] [(.int c3), (.int 3), (.ref b10)])) rfl (by rw [hml]; rfl) (argsL := [(.ref b10), (.int 3), (.int c3)]) (rest := []) (lenOf Bm rfl) rfl (by show 2 * 0 + _ ≤ _; exact Nat.le_of_eq rfl) (hb hby Yc) (fun _ _ => ⟨rfl, rfl, (by decide : 1 + 0 ≤ _), (by decide : 8 + 0 ≤ _)⟩)
  dsimp only [Pt.U, Pt.locs, Pt.cells, Pt.slots] at X31 l31 y31 z31 st31 hQ31
  subst l31 y31 z31
  obtain ⟨rfl, N31q, O31, Kc31, F31_0⟩ := hQ31
  have N31 := Fr.app N26 N31q
  have K31 := K26.trans Kc31 (allS (Or.inr s_b10) all0)
  have k32 : ∀ t, Ga p e below m T31 33 #[.val (.ref t0), .val (.int 4), .val (.int 4), .val (.ref b10), .val (.int 4)] [(.ref b10)] t → Ra p e below m s₁ #[(.ref t0), (.int 0), (.int 4)] 5 t := by
    intro t k
    refine k00 t ?_
    refine XS.iloadN X00.here hx rfl (hb hby Gk) rfl ?_
    refine st10 _ ?_
    refine XS.astoreN X10.here hx rfl (hb hby Ik) rfl rfl (l' := #[.val (.ref t0), .val (.int 0), .val (.int 4), .val (.ref b10), .unset]) rfl ?_
    refine XS.iconst X10.here hx rfl (hb hby Kk) ?_
    refine XS.istore X10.here hx rfl (hb hby Lk) rfl (l' := #[.val (.ref t0), .val (.int 0), .val (.int 4), .val (.ref b10), .val (.int 0)]) rfl ?_
    refine XS.iload X10.here hx rfl (hb hby Lb) rfl ?_
    refine XS.iloadN X10.here hx rfl (hb hby Ya) rfl ?_
    refine XS.icmpNo X10.here hx rfl (hb hby Za) rfl (tlt (by decide : (0 : Int32) < (4 : Int32))).2.1 ?_
    show Ga p e below m T10 14 #[.val (.ref t0), .val (.int 0), .val (.int 4), .val (.ref b10), .val (.int 0)] [] t
    refine XS.aloadN X10.here hx rfl (hb hby Pc) rfl rfl ?_
    refine XS.iload X10.here hx rfl (hb hby Rc) rfl ?_
    refine XS.aloadN X10.here hx rfl (hb hby Uc) rfl rfl ?_
    refine XS.iloadN X10.here hx rfl (hb hby Vc) rfl ?_
    refine X10.caload hx (j := (0 : Int32)) (v := (.int c0)) (by exact Ar12.1) (State.isArrayOf_alike hZ.alike Ar12.2.1) Ar12.2.2 hin13 hat14 (g := (mkF m 19 #[.val (.ref t0), .val (.int 0), .val (.int 4), .val (.ref b10), .val (.int 0)] [(.int 0), (.ref t0), (.int 0), (.ref b10)])) rfl rfl (hb hby Wc) _ ?_
    refine st15 _ ?_
    refine XS.iinc X15.here hx rfl (hb hby Zc) rfl (l' := #[.val (.ref t0), .val (.int ((0 : Int32) + (1 : Int32))), .val (.int 4), .val (.ref b10), .val (.int 0)]) rfl ?_
    show Ga p e below m T15 26 #[.val (.ref t0), .val (.int ((0 : Int32) + (1 : Int32))), .val (.int 4), .val (.ref b10), .val (.int 0)] [] t
    rw [show ((0 : Int32) + (1 : Int32)) = (1 : Int32) from by decide]
    show Ga p e below m T15 26 #[.val (.ref t0), .val (.int 1), .val (.int 4), .val (.ref b10), .val (.int 0)] [] t
    refine XS.iinc X15.here hx rfl (hb hby Ad) rfl (l' := #[.val (.ref t0), .val (.int 1), .val (.int 4), .val (.ref b10), .val (.int ((0 : Int32) + (1 : Int32)))]) rfl ?_
    show Ga p e below m T15 29 #[.val (.ref t0), .val (.int 1), .val (.int 4), .val (.ref b10), .val (.int ((0 : Int32) + (1 : Int32)))] [] t
    rw [show ((0 : Int32) + (1 : Int32)) = (1 : Int32) from by decide]
    refine XS.goto X15.here hx rfl (pc0 := 29) (pc' := 8) rfl (hb hby Dd) (by decide) (by decide) ?_
    refine XS.iload X15.here hx rfl (hb hby Lb) rfl ?_
    refine XS.iloadN X15.here hx rfl (hb hby Ya) rfl ?_
    refine XS.icmpNo X15.here hx rfl (hb hby Za) rfl (tlt (by decide : (1 : Int32) < (4 : Int32))).2.1 ?_
    refine XS.aloadN X15.here hx rfl (hb hby Pc) rfl rfl ?_
    refine XS.iload X15.here hx rfl (hb hby Rc) rfl ?_
    show Ga p e below m T15 17 #[.val (.ref t0), .val (.int 1), .val (.int 4), .val (.ref b10), .val (.int 1)] [(.int 1), (.ref b10)] t
    refine XS.aloadN X15.here hx rfl (hb hby Uc) rfl rfl ?_
    refine XS.iloadN X15.here hx rfl (hb hby Vc) rfl ?_
    refine X15.caload hx (j := (1 : Int32)) (v := (.int c1)) (by exact Ar18.1) (State.isArrayOf_alike hZ.alike Ar18.2.1) Ar18.2.2 hin19 hat20 (g := (mkF m 19 #[.val (.ref t0), .val (.int 1), .val (.int 4), .val (.ref b10), .val (.int 1)] [(.int 1), (.ref t0), (.int 1), (.ref b10)])) rfl rfl (hb hby Wc) _ ?_
    refine st21 _ ?_
    refine XS.iinc X21.here hx rfl (hb hby Zc) rfl (l' := #[.val (.ref t0), .val (.int ((1 : Int32) + (1 : Int32))), .val (.int 4), .val (.ref b10), .val (.int 1)]) rfl ?_
    show Ga p e below m T21 26 #[.val (.ref t0), .val (.int ((1 : Int32) + (1 : Int32))), .val (.int 4), .val (.ref b10), .val (.int 1)] [] t
    rw [show ((1 : Int32) + (1 : Int32)) = (2 : Int32) from by decide]
    refine XS.iinc X21.here hx rfl (hb hby Ad) rfl (l' := #[.val (.ref t0), .val (.int 2), .val (.int 4), .val (.ref b10), .val (.int ((1 : Int32) + (1 : Int32)))]) rfl ?_
    show Ga p e below m T21 29 #[.val (.ref t0), .val (.int 2), .val (.int 4), .val (.ref b10), .val (.int ((1 : Int32) + (1 : Int32)))] [] t
    rw [show ((1 : Int32) + (1 : Int32)) = (2 : Int32) from by decide]
    show Ga p e below m T21 29 #[.val (.ref t0), .val (.int 2), .val (.int 4), .val (.ref b10), .val (.int 2)] [] t
    refine XS.goto X21.here hx rfl (pc0 := 29) (pc' := 8) rfl (hb hby Dd) (by decide) (by decide) ?_
    refine XS.iload X21.here hx rfl (hb hby Lb) rfl ?_
    refine XS.iloadN X21.here hx rfl (hb hby Ya) rfl ?_
    refine XS.icmpNo X21.here hx rfl (hb hby Za) rfl (tlt (by decide : (2 : Int32) < (4 : Int32))).2.1 ?_
    refine XS.aloadN X21.here hx rfl (hb hby Pc) rfl rfl ?_
    refine XS.iload X21.here hx rfl (hb hby Rc) rfl ?_
    refine XS.aloadN X21.here hx rfl (hb hby Uc) rfl rfl ?_
    refine XS.iloadN X21.here hx rfl (hb hby Vc) rfl ?_
    show Ga p e below m T21 19 #[.val (.ref t0), .val (.int 2), .val (.int 4), .val (.ref b10), .val (.int 2)] [(.int 2), (.ref t0), (.int 2), (.ref b10)] t
    refine X21.caload hx (j := (2 : Int32)) (v := (.int c2)) (by exact Ar23.1) (State.isArrayOf_alike hZ.alike Ar23.2.1) Ar23.2.2 hin24 hat25 (g := (mkF m 19 #[.val (.ref t0), .val (.int 2), .val (.int 4), .val (.ref b10), .val (.int 2)] [(.int 2), (.ref t0), (.int 2), (.ref b10)])) rfl rfl (hb hby Wc) _ ?_
    refine st26 _ ?_
    refine XS.iinc X26.here hx rfl (hb hby Zc) rfl (l' := #[.val (.ref t0), .val (.int ((2 : Int32) + (1 : Int32))), .val (.int 4), .val (.ref b10), .val (.int 2)]) rfl ?_
    show Ga p e below m T26 26 #[.val (.ref t0), .val (.int ((2 : Int32) + (1 : Int32))), .val (.int 4), .val (.ref b10), .val (.int 2)] [] t
    rw [show ((2 : Int32) + (1 : Int32)) = (3 : Int32) from by decide]
    refine XS.iinc X26.here hx rfl (hb hby Ad) rfl (l' := #[.val (.ref t0), .val (.int 3), .val (.int 4), .val (.ref b10), .val (.int ((2 : Int32) + (1 : Int32)))]) rfl ?_
    show Ga p e below m T26 29 #[.val (.ref t0), .val (.int 3), .val (.int 4), .val (.ref b10), .val (.int ((2 : Int32) + (1 : Int32)))] [] t
    rw [show ((2 : Int32) + (1 : Int32)) = (3 : Int32) from by decide]
    refine XS.goto X26.here hx rfl (pc0 := 29) (pc' := 8) rfl (hb hby Dd) (by decide) (by decide) ?_
    refine XS.iload X26.here hx rfl (hb hby Lb) rfl ?_
    show Ga p e below m T26 10 #[.val (.ref t0), .val (.int 3), .val (.int 4), .val (.ref b10), .val (.int 3)] [(.int 3)] t
    refine XS.iloadN X26.here hx rfl (hb hby Ya) rfl ?_
    refine XS.icmpNo X26.here hx rfl (hb hby Za) rfl (tlt (by decide : (3 : Int32) < (4 : Int32))).2.1 ?_
    refine XS.aloadN X26.here hx rfl (hb hby Pc) rfl rfl ?_
    refine XS.iload X26.here hx rfl (hb hby Rc) rfl ?_
    refine XS.aloadN X26.here hx rfl (hb hby Uc) rfl rfl ?_
    refine XS.iloadN X26.here hx rfl (hb hby Vc) rfl ?_
    refine X26.caload hx (j := (3 : Int32)) (v := (.int c3)) (by exact Ar28.1) (State.isArrayOf_alike hZ.alike Ar28.2.1) Ar28.2.2 hin29 hat30 (g := (mkF m 19 #[.val (.ref t0), .val (.int 3), .val (.int 4), .val (.ref b10), .val (.int 3)] [(.int 3), (.ref t0), (.int 3), (.ref b10)])) rfl rfl (hb hby Wc) _ ?_
    refine st31 _ ?_
    show Ga p e below m T31 23 #[.val (.ref t0), .val (.int 3), .val (.int 4), .val (.ref b10), .val (.int 3)] [] t
    refine XS.iinc X31.here hx rfl (hb hby Zc) rfl (l' := #[.val (.ref t0), .val (.int ((3 : Int32) + (1 : Int32))), .val (.int 4), .val (.ref b10), .val (.int 3)]) rfl ?_
    show Ga p e below m T31 26 #[.val (.ref t0), .val (.int ((3 : Int32) + (1 : Int32))), .val (.int 4), .val (.ref b10), .val (.int 3)] [] t
    rw [show ((3 : Int32) + (1 : Int32)) = (4 : Int32) from by decide]
    refine XS.iinc X31.here hx rfl (hb hby Ad) rfl (l' := #[.val (.ref t0), .val (.int 4), .val (.int 4), .val (.ref b10), .val (.int ((3 : Int32) + (1 : Int32)))]) rfl ?_
    show Ga p e below m T31 29 #[.val (.ref t0), .val (.int 4), .val (.int 4), .val (.ref b10), .val (.int ((3 : Int32) + (1 : Int32)))] [] t
    rw [show ((3 : Int32) + (1 : Int32)) = (4 : Int32) from by decide]
    refine XS.goto X31.here hx rfl (pc0 := 29) (pc' := 8) rfl (hb hby Dd) (by decide) (by decide) ?_
    refine XS.iload X31.here hx rfl (hb hby Lb) rfl ?_
    refine XS.iloadN X31.here hx rfl (hb hby Ya) rfl ?_
    refine XS.icmpYes X31.here hx rfl (pc0 := 11) (pc' := 32) rfl (hb hby Za) rfl (flt (by decide : ¬ ((4 : Int32) < (4 : Int32)))).2.1 (by decide) (by decide) ?_
    show Ga p e below m T31 32 #[.val (.ref t0), .val (.int 4), .val (.int 4), .val (.ref b10), .val (.int 4)] [] t
    refine XS.aloadN X31.here hx rfl (hb hby Bj) rfl rfl ?_
    exact k
  obtain ⟨fs, hr, hrun, hended, hW, hsame⟩ := X31.leave (v := some (.ref b10)) (fun h => by rw [Bd.returns] at h; cases h)
  refine hNG ⟨_, _, k32 _ ?_, hrun, hended, _, _, rfl, ?_, ⟨_, rfl⟩, hW, hsame.mono (by decide) (by decide)⟩
  · exact retOut X31 hx (t := (.array .byte)) Bd.returns rfl (Or.inr (Or.inr (Or.inr (Or.inr ⟨rfl, rfl, rfl⟩)))) (hb hby Dj) hr
  · show Us Z t0 k0 c0 c1 c2 c3 Ba Aa h0 n0 _ T31.heap _
    exact ⟨b10, k10, rfl, N31, O31, K31, g_b10, s_b10, F31_0⟩
theorem Uv (m : MethodId) (x0 : Addr) (x1 : Int32)  : entryFrame m #[(.ref x0), (.int x1)] 2 = mkF m 0 #[.val (.ref x0), .val (.int x1)] [] := by first | (simp [entryFrame, mkF, argsToLocals, Value.category]; done) | rfl
def Ur (Z : State) (q0 : Addr) (k0 : ClassId) (x0 : Int32) (x1 : Int32) (x2 : Int32) (x3 : Int32) (x4 : Int32) (x5 : Int32) (x6 : Int32) (x7 : Int32) (Ba : Int32) (Aa : Value) (h0 : Heap) (n0 : Nat) (v : Option Value) (h : Heap) (L : List Loc) : Prop := v = some (.int ((((x0 &&& (255 : Int32)) <<< ((0 : Int32) &&& 31)) ||| ((x1 &&& (255 : Int32)) <<< ((8 : Int32) &&& 31))).toUInt32.toUInt16.toUInt32.toInt32)) ∧ Fr n0 L ∧ h = h0
set_option maxRecDepth 65536 in
set_option maxHeartbeats 40000000 in
theorem Vv (l : Launch) (Z : State) (a0 : Array Value) (hw : ∀ d ∈ tables_1, d.before a0 Z = true) (ws : List Jvm.Cond) (q0 : Addr) (k0 : ClassId) (x0 : Int32) (x1 : Int32) (x2 : Int32) (x3 : Int32) (x4 : Int32) (x5 : Int32) (x6 : Int32) (x7 : Int32) (Ba : Int32) (Aa : Value) (h0 : Heap) (n0 : Nat) (O0 : Old Z n0 h0) (hE : EV Z Ba Aa) (P0 : Arv Z h0 q0 k0 .byte (8 : Int32) [(.int x0), (.int x1), (.int x2), (.int x3), (.int x4), (.int x5), (.int x6), (.int x7)] (.int 0)) :
    MetFree l Hi (head1 (Jvm.Cond.code Hi jdk_52_method_5_code 2 (some .char) :: ws) ({ frames := 0, cells := 0, slots := 0, locals := 0 } : Room)) (fun a U => a = #[(.ref q0), (.int 0)] ∧ Z.Warmed39 U.vm ∧ U.heap = h0) (fun _ _ _ _ _ => True) (fun _ U o U' => ∃ v L, o = .returned v ∧ Ur Z q0 k0 x0 x1 x2 x3 x4 x5 x6 x7 Ba Aa h0 n0 v U'.heap L ∧ FrameEnd U o U' L ({ frames := 0, cells := 0, slots := 0, locals := 0 } : Room).cells ({ frames := 0, cells := 0, slots := 0, locals := 0 } : Room).slots) := by
  refine MetFree.of_bodySF (plainFor_of_name Pa) hisR ?_
  intro p e s m args below meth c s₁ Bd hml0 hP hK
  obtain ⟨rfl, hZ, hh⟩ := hP
  have hx := Bd.exec
  have hby := Bd.bytes
  have hml : c.maxLocals = 2 := hml0
  have hown : s.vm.findClass "java/lang/StringUTF16" = some m.cls := findClass_of_methodNamed Bd.named
  have hnm := (name_of_methodNamed Bd.named Bd.method).1
  have X00 : Stand p l e ({ frames := 0, cells := 0, slots := 0, locals := 0 } : Room) s m #[(.ref q0), (.int 0)] below meth c s₁ [] 0 0 := Stand.of_body Bd
  have e00 : s₁.heap = h0 := by rw [← hh, Bd.state]; rfl
  have N00 := Fr.nil n0
  refine Classical.byContradiction fun hNG => ?_
  have K00 := Keep.refl h0 []
  have k00 : ∀ t, Ga p e below m s₁ 0 #[.val (.ref q0), .val (.int 0)] [] t → Ra p e below m s₁ #[(.ref q0), (.int 0)] 2 t := fun t k => castTop (Uv m q0 ((0 : Int32)) ) k
  obtain ⟨Ua, La, Va, Ma, Ha, Ia, Ka⟩ := (id hE : EV Z Ba Aa)
  obtain ⟨T10, X10, e10, st10⟩ := getS2 X00 hx hZ hown (host := "") (Or.inl (Da hw 60 rfl)) Via.refl e00 (Ha.ext O0.2) (g := (mkF m 0 #[.val (.ref q0), .val (.int 0)] [])) rfl (hb hby Vg)
  obtain ⟨cl11, Ar11, q11, Sz11, Nn11, Hs11, Gf11⟩ := id P0
  have hin12 : ¬ ((0 : Int32) < 0 ∨ cl11.slots.size ≤ ((0 : Int32)).toNatClampNeg) := inb_of Sz11 ⟨by decide, by decide⟩
  have hat13 : cl11.slots[((0 : Int32)).toNatClampNeg]? = some (.int x0) := Hs11.at hin12 rfl
  obtain ⟨T14, X14, e14, st14⟩ := getS2 X10 hx hZ hown (host := "") (Or.inl (Da hw 61 rfl)) Via.refl e10 (Ia.ext O0.2) (g := (mkF m 42 #[.val (.ref q0), .val (.int 1)] [(.int (x0 &&& (255 : Int32)))])) rfl (hb hby Yf)
  obtain ⟨cl15, Ar15, q15, Sz15, Nn15, Hs15, Gf15⟩ := id P0
  have hin16 : ¬ ((1 : Int32) < 0 ∨ cl15.slots.size ≤ ((1 : Int32)).toNatClampNeg) := inb_of Sz15 ⟨by decide, by decide⟩
  have hat17 : cl15.slots[((1 : Int32)).toNatClampNeg]? = some (.int x1) := Hs15.at hin16 rfl
  obtain ⟨T18, X18, e18, st18⟩ := getS2 X14 hx hZ hown (host := "") (Or.inl (Da hw 62 rfl)) Via.refl e14 (Ka.ext O0.2) (g := (mkF m 53 #[.val (.ref q0), .val (.int 1)] [(.int (x1 &&& (255 : Int32))), (.int ((x0 &&& (255 : Int32)) <<< ((0 : Int32) &&& 31)))])) rfl (hb hby Ig)
  have k19 : ∀ t, Ga p e below m T18 59 #[.val (.ref q0), .val (.int 1)] [(.int ((((x0 &&& (255 : Int32)) <<< ((0 : Int32) &&& 31)) ||| ((x1 &&& (255 : Int32)) <<< ((8 : Int32) &&& 31))).toUInt32.toUInt16.toUInt32.toInt32))] t → Ra p e below m s₁ #[(.ref q0), (.int 0)] 2 t := by
    intro t k
    refine k00 t ?_
    refine st10 _ ?_
    refine XS.ifYes X10.here hx rfl (pc0 := 3) (pc' := 28) rfl (hb hby Wg) rfl ((if0 _ _).trans (feq (by decide : ¬ ((1 : Int32) = (0 : Int32)))).2) (by decide) (by decide) ?_
    refine XS.iloadN X10.here hx rfl (hb hby Gf) rfl ?_
    refine XS.iconst X10.here hx rfl (hb hby Hf) ?_
    refine XS.ishl X10.here hx rfl (hb hby Kf) rfl ?_
    show Ga p e below m T10 31 #[.val (.ref q0), .val (.int 0)] [(.int ((0 : Int32) <<< ((1 : Int32) &&& 31)))] t
    rw [show ((0 : Int32) <<< ((1 : Int32) &&& 31)) = (0 : Int32) from by decide]
    refine XS.istoreN X10.here hx rfl (hb hby Lf) rfl (l' := #[.val (.ref q0), .val (.int 0)]) rfl ?_
    refine XS.aloadN X10.here hx rfl (hb hby Mf) rfl rfl ?_
    show Ga p e below m T10 33 #[.val (.ref q0), .val (.int 0)] [(.ref q0)] t
    refine XS.iloadN X10.here hx rfl (hb hby Pf) rfl ?_
    refine XS.iinc X10.here hx rfl (hb hby Rf) rfl (l' := #[.val (.ref q0), .val (.int ((0 : Int32) + (1 : Int32)))]) rfl ?_
    show Ga p e below m T10 37 #[.val (.ref q0), .val (.int ((0 : Int32) + (1 : Int32)))] [(.int 0), (.ref q0)] t
    rw [show ((0 : Int32) + (1 : Int32)) = (1 : Int32) from by decide]
    refine X10.baloadBytes hx (j := (0 : Int32)) (v := (.int x0)) (by rw [e10]; exact Ar11.1) (State.isArrayOf_alike hZ.alike Ar11.2.1) Ar11.2.2 hin12 hat13 (g := (mkF m 37 #[.val (.ref q0), .val (.int 1)] [(.int 0), (.ref q0)])) rfl rfl (hb hby Uf) _ ?_
    refine XS.sipush X10.here hx rfl (hb hby Vf) ?_
    refine XS.iand X10.here hx rfl (hb hby Wf) rfl ?_
    refine st14 _ ?_
    refine XS.ishl X14.here hx rfl (hb hby Zf) rfl ?_
    show Ga p e below m T14 46 #[.val (.ref q0), .val (.int 1)] [(.int ((x0 &&& (255 : Int32)) <<< ((0 : Int32) &&& 31)))] t
    refine XS.aloadN X14.here hx rfl (hb hby Ag) rfl rfl ?_
    refine XS.iloadN X14.here hx rfl (hb hby Bg) rfl ?_
    refine X14.baloadBytes hx (j := (1 : Int32)) (v := (.int x1)) (by rw [e14]; exact Ar15.1) (State.isArrayOf_alike hZ.alike Ar15.2.1) Ar15.2.2 hin16 hat17 (g := (mkF m 48 #[.val (.ref q0), .val (.int 1)] [(.int 1), (.ref q0), (.int ((x0 &&& (255 : Int32)) <<< ((0 : Int32) &&& 31)))])) rfl rfl (hb hby Dg) _ ?_
    refine XS.sipush X14.here hx rfl (hb hby Gg) ?_
    refine XS.iand X14.here hx rfl (hb hby Hg) rfl ?_
    refine st18 _ ?_
    refine XS.ishl X18.here hx rfl (hb hby Kg) rfl ?_
    refine XS.ior X18.here hx rfl (hb hby Lg) rfl ?_
    show Ga p e below m T18 58 #[.val (.ref q0), .val (.int 1)] [(.int (((x0 &&& (255 : Int32)) <<< ((0 : Int32) &&& 31)) ||| ((x1 &&& (255 : Int32)) <<< ((8 : Int32) &&& 31))))] t
    refine XS.i2c X18.here hx rfl (hb hby Mg) rfl ?_
    exact k
  obtain ⟨fs, hr, hrun, hended, hW, hsame⟩ := X18.leave (v := some (.int ((((x0 &&& (255 : Int32)) <<< ((0 : Int32) &&& 31)) ||| ((x1 &&& (255 : Int32)) <<< ((8 : Int32) &&& 31))).toUInt32.toUInt16.toUInt32.toInt32))) (fun h => by rw [Bd.returns] at h; cases h)
  refine hNG ⟨_, _, k19 _ ?_, hrun, hended, _, _, rfl, ?_, ⟨_, rfl⟩, hW, hsame.mono (by decide) (by decide)⟩
  · exact retN X18 hx (t := .char) Bd.returns (by simp) (hb hby Pg) (by first | exact hr | (rw [show nar .char ((((x0 &&& (255 : Int32)) <<< ((0 : Int32) &&& 31)) ||| ((x1 &&& (255 : Int32)) <<< ((8 : Int32) &&& 31))).toUInt32.toUInt16.toUInt32.toInt32) = ((((x0 &&& (255 : Int32)) <<< ((0 : Int32) &&& 31)) ||| ((x1 &&& (255 : Int32)) <<< ((8 : Int32) &&& 31))).toUInt32.toUInt16.toUInt32.toInt32) from by first | rfl | exact Wi _ | decide]; exact hr))
  · show Ur Z q0 k0 x0 x1 x2 x3 x4 x5 x6 x7 Ba Aa h0 n0 _ T18.heap _
    rw [e18]
    exact ⟨rfl, N00, rfl⟩
theorem Wv (m : MethodId) (x0 : Addr) (x1 : Int32)  : entryFrame m #[(.ref x0), (.int x1)] 2 = mkF m 0 #[.val (.ref x0), .val (.int x1)] [] := by first | (simp [entryFrame, mkF, argsToLocals, Value.category]; done) | rfl
def Vr (Z : State) (q0 : Addr) (k0 : ClassId) (x0 : Int32) (x1 : Int32) (x2 : Int32) (x3 : Int32) (x4 : Int32) (x5 : Int32) (x6 : Int32) (x7 : Int32) (Ba : Int32) (Aa : Value) (h0 : Heap) (n0 : Nat) (v : Option Value) (h : Heap) (L : List Loc) : Prop := v = some (.int ((((x2 &&& (255 : Int32)) <<< ((0 : Int32) &&& 31)) ||| ((x3 &&& (255 : Int32)) <<< ((8 : Int32) &&& 31))).toUInt32.toUInt16.toUInt32.toInt32)) ∧ Fr n0 L ∧ h = h0
set_option maxRecDepth 65536 in
set_option maxHeartbeats 40000000 in
theorem Yv (l : Launch) (Z : State) (a0 : Array Value) (hw : ∀ d ∈ tables_1, d.before a0 Z = true) (ws : List Jvm.Cond) (q0 : Addr) (k0 : ClassId) (x0 : Int32) (x1 : Int32) (x2 : Int32) (x3 : Int32) (x4 : Int32) (x5 : Int32) (x6 : Int32) (x7 : Int32) (Ba : Int32) (Aa : Value) (h0 : Heap) (n0 : Nat) (O0 : Old Z n0 h0) (hE : EV Z Ba Aa) (P0 : Arv Z h0 q0 k0 .byte (8 : Int32) [(.int x0), (.int x1), (.int x2), (.int x3), (.int x4), (.int x5), (.int x6), (.int x7)] (.int 0)) :
    MetFree l Hi (head1 (Jvm.Cond.code Hi jdk_52_method_5_code 2 (some .char) :: ws) ({ frames := 0, cells := 0, slots := 0, locals := 0 } : Room)) (fun a U => a = #[(.ref q0), (.int 1)] ∧ Z.Warmed39 U.vm ∧ U.heap = h0) (fun _ _ _ _ _ => True) (fun _ U o U' => ∃ v L, o = .returned v ∧ Vr Z q0 k0 x0 x1 x2 x3 x4 x5 x6 x7 Ba Aa h0 n0 v U'.heap L ∧ FrameEnd U o U' L ({ frames := 0, cells := 0, slots := 0, locals := 0 } : Room).cells ({ frames := 0, cells := 0, slots := 0, locals := 0 } : Room).slots) := by
  refine MetFree.of_bodySF (plainFor_of_name Pa) hisR ?_
  intro p e s m args below meth c s₁ Bd hml0 hP hK
  obtain ⟨rfl, hZ, hh⟩ := hP
  have hx := Bd.exec
  have hby := Bd.bytes
  have hml : c.maxLocals = 2 := hml0
  have hown : s.vm.findClass "java/lang/StringUTF16" = some m.cls := findClass_of_methodNamed Bd.named
  have hnm := (name_of_methodNamed Bd.named Bd.method).1
  have X00 : Stand p l e ({ frames := 0, cells := 0, slots := 0, locals := 0 } : Room) s m #[(.ref q0), (.int 1)] below meth c s₁ [] 0 0 := Stand.of_body Bd
  have e00 : s₁.heap = h0 := by rw [← hh, Bd.state]; rfl
  have N00 := Fr.nil n0
  refine Classical.byContradiction fun hNG => ?_
  have K00 := Keep.refl h0 []
  have k00 : ∀ t, Ga p e below m s₁ 0 #[.val (.ref q0), .val (.int 1)] [] t → Ra p e below m s₁ #[(.ref q0), (.int 1)] 2 t := fun t k => castTop (Wv m q0 ((1 : Int32)) ) k
  obtain ⟨Ua, La, Va, Ma, Ha, Ia, Ka⟩ := (id hE : EV Z Ba Aa)
  obtain ⟨T10, X10, e10, st10⟩ := getS2 X00 hx hZ hown (host := "") (Or.inl (Da hw 60 rfl)) Via.refl e00 (Ha.ext O0.2) (g := (mkF m 0 #[.val (.ref q0), .val (.int 1)] [])) rfl (hb hby Vg)
  obtain ⟨cl11, Ar11, q11, Sz11, Nn11, Hs11, Gf11⟩ := id P0
  have hin12 : ¬ ((2 : Int32) < 0 ∨ cl11.slots.size ≤ ((2 : Int32)).toNatClampNeg) := inb_of Sz11 ⟨by decide, by decide⟩
  have hat13 : cl11.slots[((2 : Int32)).toNatClampNeg]? = some (.int x2) := Hs11.at hin12 rfl
  obtain ⟨T14, X14, e14, st14⟩ := getS2 X10 hx hZ hown (host := "") (Or.inl (Da hw 61 rfl)) Via.refl e10 (Ia.ext O0.2) (g := (mkF m 42 #[.val (.ref q0), .val (.int 3)] [(.int (x2 &&& (255 : Int32)))])) rfl (hb hby Yf)
  obtain ⟨cl15, Ar15, q15, Sz15, Nn15, Hs15, Gf15⟩ := id P0
  have hin16 : ¬ ((3 : Int32) < 0 ∨ cl15.slots.size ≤ ((3 : Int32)).toNatClampNeg) := inb_of Sz15 ⟨by decide, by decide⟩
  have hat17 : cl15.slots[((3 : Int32)).toNatClampNeg]? = some (.int x3) := Hs15.at hin16 rfl
  obtain ⟨T18, X18, e18, st18⟩ := getS2 X14 hx hZ hown (host := "") (Or.inl (Da hw 62 rfl)) Via.refl e14 (Ka.ext O0.2) (g := (mkF m 53 #[.val (.ref q0), .val (.int 3)] [(.int (x3 &&& (255 : Int32))), (.int ((x2 &&& (255 : Int32)) <<< ((0 : Int32) &&& 31)))])) rfl (hb hby Ig)
  have k19 : ∀ t, Ga p e below m T18 59 #[.val (.ref q0), .val (.int 3)] [(.int ((((x2 &&& (255 : Int32)) <<< ((0 : Int32) &&& 31)) ||| ((x3 &&& (255 : Int32)) <<< ((8 : Int32) &&& 31))).toUInt32.toUInt16.toUInt32.toInt32))] t → Ra p e below m s₁ #[(.ref q0), (.int 1)] 2 t := by
    intro t k
    refine k00 t ?_
    refine st10 _ ?_
    refine XS.ifYes X10.here hx rfl (pc0 := 3) (pc' := 28) rfl (hb hby Wg) rfl ((if0 _ _).trans (feq (by decide : ¬ ((1 : Int32) = (0 : Int32)))).2) (by decide) (by decide) ?_
    refine XS.iloadN X10.here hx rfl (hb hby Gf) rfl ?_
    refine XS.iconst X10.here hx rfl (hb hby Hf) ?_
    refine XS.ishl X10.here hx rfl (hb hby Kf) rfl ?_
    show Ga p e below m T10 31 #[.val (.ref q0), .val (.int 1)] [(.int ((1 : Int32) <<< ((1 : Int32) &&& 31)))] t
    rw [show ((1 : Int32) <<< ((1 : Int32) &&& 31)) = (2 : Int32) from by decide]
    refine XS.istoreN X10.here hx rfl (hb hby Lf) rfl (l' := #[.val (.ref q0), .val (.int 2)]) rfl ?_
    refine XS.aloadN X10.here hx rfl (hb hby Mf) rfl rfl ?_
    show Ga p e below m T10 33 #[.val (.ref q0), .val (.int 2)] [(.ref q0)] t
    refine XS.iloadN X10.here hx rfl (hb hby Pf) rfl ?_
    refine XS.iinc X10.here hx rfl (hb hby Rf) rfl (l' := #[.val (.ref q0), .val (.int ((2 : Int32) + (1 : Int32)))]) rfl ?_
    show Ga p e below m T10 37 #[.val (.ref q0), .val (.int ((2 : Int32) + (1 : Int32)))] [(.int 2), (.ref q0)] t
    rw [show ((2 : Int32) + (1 : Int32)) = (3 : Int32) from by decide]
    refine X10.baloadBytes hx (j := (2 : Int32)) (v := (.int x2)) (by rw [e10]; exact Ar11.1) (State.isArrayOf_alike hZ.alike Ar11.2.1) Ar11.2.2 hin12 hat13 (g := (mkF m 37 #[.val (.ref q0), .val (.int 3)] [(.int 2), (.ref q0)])) rfl rfl (hb hby Uf) _ ?_
    refine XS.sipush X10.here hx rfl (hb hby Vf) ?_
    refine XS.iand X10.here hx rfl (hb hby Wf) rfl ?_
    refine st14 _ ?_
    refine XS.ishl X14.here hx rfl (hb hby Zf) rfl ?_
    show Ga p e below m T14 46 #[.val (.ref q0), .val (.int 3)] [(.int ((x2 &&& (255 : Int32)) <<< ((0 : Int32) &&& 31)))] t
    refine XS.aloadN X14.here hx rfl (hb hby Ag) rfl rfl ?_
    refine XS.iloadN X14.here hx rfl (hb hby Bg) rfl ?_
    refine X14.baloadBytes hx (j := (3 : Int32)) (v := (.int x3)) (by rw [e14]; exact Ar15.1) (State.isArrayOf_alike hZ.alike Ar15.2.1) Ar15.2.2 hin16 hat17 (g := (mkF m 48 #[.val (.ref q0), .val (.int 3)] [(.int 3), (.ref q0), (.int ((x2 &&& (255 : Int32)) <<< ((0 : Int32) &&& 31)))])) rfl rfl (hb hby Dg) _ ?_
    refine XS.sipush X14.here hx rfl (hb hby Gg) ?_
    refine XS.iand X14.here hx rfl (hb hby Hg) rfl ?_
    refine st18 _ ?_
    refine XS.ishl X18.here hx rfl (hb hby Kg) rfl ?_
    refine XS.ior X18.here hx rfl (hb hby Lg) rfl ?_
    show Ga p e below m T18 58 #[.val (.ref q0), .val (.int 3)] [(.int (((x2 &&& (255 : Int32)) <<< ((0 : Int32) &&& 31)) ||| ((x3 &&& (255 : Int32)) <<< ((8 : Int32) &&& 31))))] t
    refine XS.i2c X18.here hx rfl (hb hby Mg) rfl ?_
    exact k
  obtain ⟨fs, hr, hrun, hended, hW, hsame⟩ := X18.leave (v := some (.int ((((x2 &&& (255 : Int32)) <<< ((0 : Int32) &&& 31)) ||| ((x3 &&& (255 : Int32)) <<< ((8 : Int32) &&& 31))).toUInt32.toUInt16.toUInt32.toInt32))) (fun h => by rw [Bd.returns] at h; cases h)
  refine hNG ⟨_, _, k19 _ ?_, hrun, hended, _, _, rfl, ?_, ⟨_, rfl⟩, hW, hsame.mono (by decide) (by decide)⟩
  · exact retN X18 hx (t := .char) Bd.returns (by simp) (hb hby Pg) (by first | exact hr | (rw [show nar .char ((((x2 &&& (255 : Int32)) <<< ((0 : Int32) &&& 31)) ||| ((x3 &&& (255 : Int32)) <<< ((8 : Int32) &&& 31))).toUInt32.toUInt16.toUInt32.toInt32) = ((((x2 &&& (255 : Int32)) <<< ((0 : Int32) &&& 31)) ||| ((x3 &&& (255 : Int32)) <<< ((8 : Int32) &&& 31))).toUInt32.toUInt16.toUInt32.toInt32) from by first | rfl | exact Wi _ | decide]; exact hr))
  · show Vr Z q0 k0 x0 x1 x2 x3 x4 x5 x6 x7 Ba Aa h0 n0 _ T18.heap _
    rw [e18]
    exact ⟨rfl, N00, rfl⟩
theorem Zv (m : MethodId) (x0 : Addr) (x1 : Int32)  : entryFrame m #[(.ref x0), (.int x1)] 2 = mkF m 0 #[.val (.ref x0), .val (.int x1)] [] := by first | (simp [entryFrame, mkF, argsToLocals, Value.category]; done) | rfl
def Wr (Z : State) (q0 : Addr) (k0 : ClassId) (x0 : Int32) (x1 : Int32) (x2 : Int32) (x3 : Int32) (x4 : Int32) (x5 : Int32) (x6 : Int32) (x7 : Int32) (Ba : Int32) (Aa : Value) (h0 : Heap) (n0 : Nat) (v : Option Value) (h : Heap) (L : List Loc) : Prop := v = some (.int ((((x4 &&& (255 : Int32)) <<< ((0 : Int32) &&& 31)) ||| ((x5 &&& (255 : Int32)) <<< ((8 : Int32) &&& 31))).toUInt32.toUInt16.toUInt32.toInt32)) ∧ Fr n0 L ∧ h = h0
set_option maxRecDepth 65536 in
set_option maxHeartbeats 40000000 in
theorem Aw (l : Launch) (Z : State) (a0 : Array Value) (hw : ∀ d ∈ tables_1, d.before a0 Z = true) (ws : List Jvm.Cond) (q0 : Addr) (k0 : ClassId) (x0 : Int32) (x1 : Int32) (x2 : Int32) (x3 : Int32) (x4 : Int32) (x5 : Int32) (x6 : Int32) (x7 : Int32) (Ba : Int32) (Aa : Value) (h0 : Heap) (n0 : Nat) (O0 : Old Z n0 h0) (hE : EV Z Ba Aa) (P0 : Arv Z h0 q0 k0 .byte (8 : Int32) [(.int x0), (.int x1), (.int x2), (.int x3), (.int x4), (.int x5), (.int x6), (.int x7)] (.int 0)) :
    MetFree l Hi (head1 (Jvm.Cond.code Hi jdk_52_method_5_code 2 (some .char) :: ws) ({ frames := 0, cells := 0, slots := 0, locals := 0 } : Room)) (fun a U => a = #[(.ref q0), (.int 2)] ∧ Z.Warmed39 U.vm ∧ U.heap = h0) (fun _ _ _ _ _ => True) (fun _ U o U' => ∃ v L, o = .returned v ∧ Wr Z q0 k0 x0 x1 x2 x3 x4 x5 x6 x7 Ba Aa h0 n0 v U'.heap L ∧ FrameEnd U o U' L ({ frames := 0, cells := 0, slots := 0, locals := 0 } : Room).cells ({ frames := 0, cells := 0, slots := 0, locals := 0 } : Room).slots) := by
  refine MetFree.of_bodySF (plainFor_of_name Pa) hisR ?_
  intro p e s m args below meth c s₁ Bd hml0 hP hK
  obtain ⟨rfl, hZ, hh⟩ := hP
  have hx := Bd.exec
  have hby := Bd.bytes
  have hml : c.maxLocals = 2 := hml0
  have hown : s.vm.findClass "java/lang/StringUTF16" = some m.cls := findClass_of_methodNamed Bd.named
  have hnm := (name_of_methodNamed Bd.named Bd.method).1
  have X00 : Stand p l e ({ frames := 0, cells := 0, slots := 0, locals := 0 } : Room) s m #[(.ref q0), (.int 2)] below meth c s₁ [] 0 0 := Stand.of_body Bd
  have e00 : s₁.heap = h0 := by rw [← hh, Bd.state]; rfl
  have N00 := Fr.nil n0
  refine Classical.byContradiction fun hNG => ?_
  have K00 := Keep.refl h0 []
  have k00 : ∀ t, Ga p e below m s₁ 0 #[.val (.ref q0), .val (.int 2)] [] t → Ra p e below m s₁ #[(.ref q0), (.int 2)] 2 t := fun t k => castTop (Zv m q0 ((2 : Int32)) ) k
  obtain ⟨Ua, La, Va, Ma, Ha, Ia, Ka⟩ := (id hE : EV Z Ba Aa)
  obtain ⟨T10, X10, e10, st10⟩ := getS2 X00 hx hZ hown (host := "") (Or.inl (Da hw 60 rfl)) Via.refl e00 (Ha.ext O0.2) (g := (mkF m 0 #[.val (.ref q0), .val (.int 2)] [])) rfl (hb hby Vg)
  obtain ⟨cl11, Ar11, q11, Sz11, Nn11, Hs11, Gf11⟩ := id P0
  have hin12 : ¬ ((4 : Int32) < 0 ∨ cl11.slots.size ≤ ((4 : Int32)).toNatClampNeg) := inb_of Sz11 ⟨by decide, by decide⟩
  have hat13 : cl11.slots[((4 : Int32)).toNatClampNeg]? = some (.int x4) := Hs11.at hin12 rfl
  obtain ⟨T14, X14, e14, st14⟩ := getS2 X10 hx hZ hown (host := "") (Or.inl (Da hw 61 rfl)) Via.refl e10 (Ia.ext O0.2) (g := (mkF m 42 #[.val (.ref q0), .val (.int 5)] [(.int (x4 &&& (255 : Int32)))])) rfl (hb hby Yf)
  obtain ⟨cl15, Ar15, q15, Sz15, Nn15, Hs15, Gf15⟩ := id P0
  have hin16 : ¬ ((5 : Int32) < 0 ∨ cl15.slots.size ≤ ((5 : Int32)).toNatClampNeg) := inb_of Sz15 ⟨by decide, by decide⟩
  have hat17 : cl15.slots[((5 : Int32)).toNatClampNeg]? = some (.int x5) := Hs15.at hin16 rfl
  obtain ⟨T18, X18, e18, st18⟩ := getS2 X14 hx hZ hown (host := "") (Or.inl (Da hw 62 rfl)) Via.refl e14 (Ka.ext O0.2) (g := (mkF m 53 #[.val (.ref q0), .val (.int 5)] [(.int (x5 &&& (255 : Int32))), (.int ((x4 &&& (255 : Int32)) <<< ((0 : Int32) &&& 31)))])) rfl (hb hby Ig)
  have k19 : ∀ t, Ga p e below m T18 59 #[.val (.ref q0), .val (.int 5)] [(.int ((((x4 &&& (255 : Int32)) <<< ((0 : Int32) &&& 31)) ||| ((x5 &&& (255 : Int32)) <<< ((8 : Int32) &&& 31))).toUInt32.toUInt16.toUInt32.toInt32))] t → Ra p e below m s₁ #[(.ref q0), (.int 2)] 2 t := by
    intro t k
    refine k00 t ?_
    refine st10 _ ?_
    refine XS.ifYes X10.here hx rfl (pc0 := 3) (pc' := 28) rfl (hb hby Wg) rfl ((if0 _ _).trans (feq (by decide : ¬ ((1 : Int32) = (0 : Int32)))).2) (by decide) (by decide) ?_
    refine XS.iloadN X10.here hx rfl (hb hby Gf) rfl ?_
    refine XS.iconst X10.here hx rfl (hb hby Hf) ?_
    refine XS.ishl X10.here hx rfl (hb hby Kf) rfl ?_
    show Ga p e below m T10 31 #[.val (.ref q0), .val (.int 2)] [(.int ((2 : Int32) <<< ((1 : Int32) &&& 31)))] t
    rw [show ((2 : Int32) <<< ((1 : Int32) &&& 31)) = (4 : Int32) from by decide]
    refine XS.istoreN X10.here hx rfl (hb hby Lf) rfl (l' := #[.val (.ref q0), .val (.int 4)]) rfl ?_
    refine XS.aloadN X10.here hx rfl (hb hby Mf) rfl rfl ?_
    show Ga p e below m T10 33 #[.val (.ref q0), .val (.int 4)] [(.ref q0)] t
    refine XS.iloadN X10.here hx rfl (hb hby Pf) rfl ?_
    refine XS.iinc X10.here hx rfl (hb hby Rf) rfl (l' := #[.val (.ref q0), .val (.int ((4 : Int32) + (1 : Int32)))]) rfl ?_
    show Ga p e below m T10 37 #[.val (.ref q0), .val (.int ((4 : Int32) + (1 : Int32)))] [(.int 4), (.ref q0)] t
    rw [show ((4 : Int32) + (1 : Int32)) = (5 : Int32) from by decide]
    refine X10.baloadBytes hx (j := (4 : Int32)) (v := (.int x4)) (by rw [e10]; exact Ar11.1) (State.isArrayOf_alike hZ.alike Ar11.2.1) Ar11.2.2 hin12 hat13 (g := (mkF m 37 #[.val (.ref q0), .val (.int 5)] [(.int 4), (.ref q0)])) rfl rfl (hb hby Uf) _ ?_
    refine XS.sipush X10.here hx rfl (hb hby Vf) ?_
    refine XS.iand X10.here hx rfl (hb hby Wf) rfl ?_
    refine st14 _ ?_
    refine XS.ishl X14.here hx rfl (hb hby Zf) rfl ?_
    show Ga p e below m T14 46 #[.val (.ref q0), .val (.int 5)] [(.int ((x4 &&& (255 : Int32)) <<< ((0 : Int32) &&& 31)))] t
    refine XS.aloadN X14.here hx rfl (hb hby Ag) rfl rfl ?_
    refine XS.iloadN X14.here hx rfl (hb hby Bg) rfl ?_
    refine X14.baloadBytes hx (j := (5 : Int32)) (v := (.int x5)) (by rw [e14]; exact Ar15.1) (State.isArrayOf_alike hZ.alike Ar15.2.1) Ar15.2.2 hin16 hat17 (g := (mkF m 48 #[.val (.ref q0), .val (.int 5)] [(.int 5), (.ref q0), (.int ((x4 &&& (255 : Int32)) <<< ((0 : Int32) &&& 31)))])) rfl rfl (hb hby Dg) _ ?_
    refine XS.sipush X14.here hx rfl (hb hby Gg) ?_
    refine XS.iand X14.here hx rfl (hb hby Hg) rfl ?_
    refine st18 _ ?_
    refine XS.ishl X18.here hx rfl (hb hby Kg) rfl ?_
    refine XS.ior X18.here hx rfl (hb hby Lg) rfl ?_
    show Ga p e below m T18 58 #[.val (.ref q0), .val (.int 5)] [(.int (((x4 &&& (255 : Int32)) <<< ((0 : Int32) &&& 31)) ||| ((x5 &&& (255 : Int32)) <<< ((8 : Int32) &&& 31))))] t
    refine XS.i2c X18.here hx rfl (hb hby Mg) rfl ?_
    exact k
  obtain ⟨fs, hr, hrun, hended, hW, hsame⟩ := X18.leave (v := some (.int ((((x4 &&& (255 : Int32)) <<< ((0 : Int32) &&& 31)) ||| ((x5 &&& (255 : Int32)) <<< ((8 : Int32) &&& 31))).toUInt32.toUInt16.toUInt32.toInt32))) (fun h => by rw [Bd.returns] at h; cases h)
  refine hNG ⟨_, _, k19 _ ?_, hrun, hended, _, _, rfl, ?_, ⟨_, rfl⟩, hW, hsame.mono (by decide) (by decide)⟩
  · exact retN X18 hx (t := .char) Bd.returns (by simp) (hb hby Pg) (by first | exact hr | (rw [show nar .char ((((x4 &&& (255 : Int32)) <<< ((0 : Int32) &&& 31)) ||| ((x5 &&& (255 : Int32)) <<< ((8 : Int32) &&& 31))).toUInt32.toUInt16.toUInt32.toInt32) = ((((x4 &&& (255 : Int32)) <<< ((0 : Int32) &&& 31)) ||| ((x5 &&& (255 : Int32)) <<< ((8 : Int32) &&& 31))).toUInt32.toUInt16.toUInt32.toInt32) from by first | rfl | exact Wi _ | decide]; exact hr))
  · show Wr Z q0 k0 x0 x1 x2 x3 x4 x5 x6 x7 Ba Aa h0 n0 _ T18.heap _
    rw [e18]
    exact ⟨rfl, N00, rfl⟩
theorem Bw (m : MethodId) (x0 : Addr) (x1 : Int32)  : entryFrame m #[(.ref x0), (.int x1)] 2 = mkF m 0 #[.val (.ref x0), .val (.int x1)] [] := by first | (simp [entryFrame, mkF, argsToLocals, Value.category]; done) | rfl
def Yr (Z : State) (q0 : Addr) (k0 : ClassId) (x0 : Int32) (x1 : Int32) (x2 : Int32) (x3 : Int32) (x4 : Int32) (x5 : Int32) (x6 : Int32) (x7 : Int32) (Ba : Int32) (Aa : Value) (h0 : Heap) (n0 : Nat) (v : Option Value) (h : Heap) (L : List Loc) : Prop := v = some (.int ((((x6 &&& (255 : Int32)) <<< ((0 : Int32) &&& 31)) ||| ((x7 &&& (255 : Int32)) <<< ((8 : Int32) &&& 31))).toUInt32.toUInt16.toUInt32.toInt32)) ∧ Fr n0 L ∧ h = h0
set_option maxRecDepth 65536 in
set_option maxHeartbeats 40000000 in
theorem Dw (l : Launch) (Z : State) (a0 : Array Value) (hw : ∀ d ∈ tables_1, d.before a0 Z = true) (ws : List Jvm.Cond) (q0 : Addr) (k0 : ClassId) (x0 : Int32) (x1 : Int32) (x2 : Int32) (x3 : Int32) (x4 : Int32) (x5 : Int32) (x6 : Int32) (x7 : Int32) (Ba : Int32) (Aa : Value) (h0 : Heap) (n0 : Nat) (O0 : Old Z n0 h0) (hE : EV Z Ba Aa) (P0 : Arv Z h0 q0 k0 .byte (8 : Int32) [(.int x0), (.int x1), (.int x2), (.int x3), (.int x4), (.int x5), (.int x6), (.int x7)] (.int 0)) :
    MetFree l Hi (head1 (Jvm.Cond.code Hi jdk_52_method_5_code 2 (some .char) :: ws) ({ frames := 0, cells := 0, slots := 0, locals := 0 } : Room)) (fun a U => a = #[(.ref q0), (.int 3)] ∧ Z.Warmed39 U.vm ∧ U.heap = h0) (fun _ _ _ _ _ => True) (fun _ U o U' => ∃ v L, o = .returned v ∧ Yr Z q0 k0 x0 x1 x2 x3 x4 x5 x6 x7 Ba Aa h0 n0 v U'.heap L ∧ FrameEnd U o U' L ({ frames := 0, cells := 0, slots := 0, locals := 0 } : Room).cells ({ frames := 0, cells := 0, slots := 0, locals := 0 } : Room).slots) := by
  refine MetFree.of_bodySF (plainFor_of_name Pa) hisR ?_
  intro p e s m args below meth c s₁ Bd hml0 hP hK
  obtain ⟨rfl, hZ, hh⟩ := hP
  have hx := Bd.exec
  have hby := Bd.bytes
  have hml : c.maxLocals = 2 := hml0
  have hown : s.vm.findClass "java/lang/StringUTF16" = some m.cls := findClass_of_methodNamed Bd.named
  have hnm := (name_of_methodNamed Bd.named Bd.method).1
  have X00 : Stand p l e ({ frames := 0, cells := 0, slots := 0, locals := 0 } : Room) s m #[(.ref q0), (.int 3)] below meth c s₁ [] 0 0 := Stand.of_body Bd
  have e00 : s₁.heap = h0 := by rw [← hh, Bd.state]; rfl
  have N00 := Fr.nil n0
  refine Classical.byContradiction fun hNG => ?_
  have K00 := Keep.refl h0 []
  have k00 : ∀ t, Ga p e below m s₁ 0 #[.val (.ref q0), .val (.int 3)] [] t → Ra p e below m s₁ #[(.ref q0), (.int 3)] 2 t := fun t k => castTop (Bw m q0 ((3 : Int32)) ) k
  obtain ⟨Ua, La, Va, Ma, Ha, Ia, Ka⟩ := (id hE : EV Z Ba Aa)
  obtain ⟨T10, X10, e10, st10⟩ := getS2 X00 hx hZ hown (host := "") (Or.inl (Da hw 60 rfl)) Via.refl e00 (Ha.ext O0.2) (g := (mkF m 0 #[.val (.ref q0), .val (.int 3)] [])) rfl (hb hby Vg)
  obtain ⟨cl11, Ar11, q11, Sz11, Nn11, Hs11, Gf11⟩ := id P0
  have hin12 : ¬ ((6 : Int32) < 0 ∨ cl11.slots.size ≤ ((6 : Int32)).toNatClampNeg) := inb_of Sz11 ⟨by decide, by decide⟩
  have hat13 : cl11.slots[((6 : Int32)).toNatClampNeg]? = some (.int x6) := Hs11.at hin12 rfl
  obtain ⟨T14, X14, e14, st14⟩ := getS2 X10 hx hZ hown (host := "") (Or.inl (Da hw 61 rfl)) Via.refl e10 (Ia.ext O0.2) (g := (mkF m 42 #[.val (.ref q0), .val (.int 7)] [(.int (x6 &&& (255 : Int32)))])) rfl (hb hby Yf)
  obtain ⟨cl15, Ar15, q15, Sz15, Nn15, Hs15, Gf15⟩ := id P0
  have hin16 : ¬ ((7 : Int32) < 0 ∨ cl15.slots.size ≤ ((7 : Int32)).toNatClampNeg) := inb_of Sz15 ⟨by decide, by decide⟩
  have hat17 : cl15.slots[((7 : Int32)).toNatClampNeg]? = some (.int x7) := Hs15.at hin16 rfl
  obtain ⟨T18, X18, e18, st18⟩ := getS2 X14 hx hZ hown (host := "") (Or.inl (Da hw 62 rfl)) Via.refl e14 (Ka.ext O0.2) (g := (mkF m 53 #[.val (.ref q0), .val (.int 7)] [(.int (x7 &&& (255 : Int32))), (.int ((x6 &&& (255 : Int32)) <<< ((0 : Int32) &&& 31)))])) rfl (hb hby Ig)
  have k19 : ∀ t, Ga p e below m T18 59 #[.val (.ref q0), .val (.int 7)] [(.int ((((x6 &&& (255 : Int32)) <<< ((0 : Int32) &&& 31)) ||| ((x7 &&& (255 : Int32)) <<< ((8 : Int32) &&& 31))).toUInt32.toUInt16.toUInt32.toInt32))] t → Ra p e below m s₁ #[(.ref q0), (.int 3)] 2 t := by
    intro t k
    refine k00 t ?_
    refine st10 _ ?_
    refine XS.ifYes X10.here hx rfl (pc0 := 3) (pc' := 28) rfl (hb hby Wg) rfl ((if0 _ _).trans (feq (by decide : ¬ ((1 : Int32) = (0 : Int32)))).2) (by decide) (by decide) ?_
    refine XS.iloadN X10.here hx rfl (hb hby Gf) rfl ?_
    refine XS.iconst X10.here hx rfl (hb hby Hf) ?_
    refine XS.ishl X10.here hx rfl (hb hby Kf) rfl ?_
    show Ga p e below m T10 31 #[.val (.ref q0), .val (.int 3)] [(.int ((3 : Int32) <<< ((1 : Int32) &&& 31)))] t
    rw [show ((3 : Int32) <<< ((1 : Int32) &&& 31)) = (6 : Int32) from by decide]
    refine XS.istoreN X10.here hx rfl (hb hby Lf) rfl (l' := #[.val (.ref q0), .val (.int 6)]) rfl ?_
    refine XS.aloadN X10.here hx rfl (hb hby Mf) rfl rfl ?_
    show Ga p e below m T10 33 #[.val (.ref q0), .val (.int 6)] [(.ref q0)] t
    refine XS.iloadN X10.here hx rfl (hb hby Pf) rfl ?_
    refine XS.iinc X10.here hx rfl (hb hby Rf) rfl (l' := #[.val (.ref q0), .val (.int ((6 : Int32) + (1 : Int32)))]) rfl ?_
    show Ga p e below m T10 37 #[.val (.ref q0), .val (.int ((6 : Int32) + (1 : Int32)))] [(.int 6), (.ref q0)] t
    rw [show ((6 : Int32) + (1 : Int32)) = (7 : Int32) from by decide]
    refine X10.baloadBytes hx (j := (6 : Int32)) (v := (.int x6)) (by rw [e10]; exact Ar11.1) (State.isArrayOf_alike hZ.alike Ar11.2.1) Ar11.2.2 hin12 hat13 (g := (mkF m 37 #[.val (.ref q0), .val (.int 7)] [(.int 6), (.ref q0)])) rfl rfl (hb hby Uf) _ ?_
    refine XS.sipush X10.here hx rfl (hb hby Vf) ?_
    refine XS.iand X10.here hx rfl (hb hby Wf) rfl ?_
    refine st14 _ ?_
    refine XS.ishl X14.here hx rfl (hb hby Zf) rfl ?_
    show Ga p e below m T14 46 #[.val (.ref q0), .val (.int 7)] [(.int ((x6 &&& (255 : Int32)) <<< ((0 : Int32) &&& 31)))] t
    refine XS.aloadN X14.here hx rfl (hb hby Ag) rfl rfl ?_
    refine XS.iloadN X14.here hx rfl (hb hby Bg) rfl ?_
    refine X14.baloadBytes hx (j := (7 : Int32)) (v := (.int x7)) (by rw [e14]; exact Ar15.1) (State.isArrayOf_alike hZ.alike Ar15.2.1) Ar15.2.2 hin16 hat17 (g := (mkF m 48 #[.val (.ref q0), .val (.int 7)] [(.int 7), (.ref q0), (.int ((x6 &&& (255 : Int32)) <<< ((0 : Int32) &&& 31)))])) rfl rfl (hb hby Dg) _ ?_
    refine XS.sipush X14.here hx rfl (hb hby Gg) ?_
    refine XS.iand X14.here hx rfl (hb hby Hg) rfl ?_
    refine st18 _ ?_
    refine XS.ishl X18.here hx rfl (hb hby Kg) rfl ?_
    refine XS.ior X18.here hx rfl (hb hby Lg) rfl ?_
    show Ga p e below m T18 58 #[.val (.ref q0), .val (.int 7)] [(.int (((x6 &&& (255 : Int32)) <<< ((0 : Int32) &&& 31)) ||| ((x7 &&& (255 : Int32)) <<< ((8 : Int32) &&& 31))))] t
    refine XS.i2c X18.here hx rfl (hb hby Mg) rfl ?_
    exact k
  obtain ⟨fs, hr, hrun, hended, hW, hsame⟩ := X18.leave (v := some (.int ((((x6 &&& (255 : Int32)) <<< ((0 : Int32) &&& 31)) ||| ((x7 &&& (255 : Int32)) <<< ((8 : Int32) &&& 31))).toUInt32.toUInt16.toUInt32.toInt32))) (fun h => by rw [Bd.returns] at h; cases h)
  refine hNG ⟨_, _, k19 _ ?_, hrun, hended, _, _, rfl, ?_, ⟨_, rfl⟩, hW, hsame.mono (by decide) (by decide)⟩
  · exact retN X18 hx (t := .char) Bd.returns (by simp) (hb hby Pg) (by first | exact hr | (rw [show nar .char ((((x6 &&& (255 : Int32)) <<< ((0 : Int32) &&& 31)) ||| ((x7 &&& (255 : Int32)) <<< ((8 : Int32) &&& 31))).toUInt32.toUInt16.toUInt32.toInt32) = ((((x6 &&& (255 : Int32)) <<< ((0 : Int32) &&& 31)) ||| ((x7 &&& (255 : Int32)) <<< ((8 : Int32) &&& 31))).toUInt32.toUInt16.toUInt32.toInt32) from by first | rfl | exact Wi _ | decide]; exact hr))
  · show Yr Z q0 k0 x0 x1 x2 x3 x4 x5 x6 x7 Ba Aa h0 n0 _ T18.heap _
    rw [e18]
    exact ⟨rfl, N00, rfl⟩
theorem Zy (m : MethodId) (x0 : Addr) (x1 : Int32) (x2 : Int32)  : entryFrame m #[(.ref x0), (.int x1), (.int x2)] 6 = mkF m 0 #[.val (.ref x0), .val (.int x1), .val (.int x2), .unset, .unset, .unset] [] := by first | (simp [entryFrame, mkF, argsToLocals, Value.category]; done) | rfl
def Io (Z : State) (t0 : Addr) (k0 : ClassId) (c0 : Int32) (c1 : Int32) (c2 : Int32) (c3 : Int32) (Ba : Int32) (Aa : Value) (h0 : Heap) (n0 : Nat) (v : Option Value) (h : Heap) (L : List Loc) : Prop := ∃ (b : Addr) (z : Int32) (k : ClassId) (vs : List Value), v = some (.ref b) ∧ Fr n0 L ∧ Old Z n0 h ∧ Keep h0 h [] ∧ n0 ≤ b ∧ h0.size ≤ b ∧ Arv Z h b k .byte z vs (.int 0) ∧ ((z = (4 : Int32) ∨ z = (8 : Int32)))
set_option maxRecDepth 65536 in
set_option maxHeartbeats 40000000 in
theorem Az (l : Launch) (Z : State) (a0 : Array Value) (hw : ∀ d ∈ tables_1, d.before a0 Z = true) (ws : List Jvm.Cond) (t0 : Addr) (k0 : ClassId) (c0 : Int32) (c1 : Int32) (c2 : Int32) (c3 : Int32) (Ba : Int32) (Aa : Value) (h0 : Heap) (n0 : Nat) (O0 : Old Z n0 h0) (hE : EV Z Ba Aa) (P0 : Arv Z h0 t0 k0 .char (4 : Int32) [(.int c0), (.int c1), (.int c2), (.int c3)] (.int 0)) (lo0 : ¬ c0 < 0) (hi0 : ¬ (65535 : Int32) < c0) (lo1 : ¬ c1 < 0) (hi1 : ¬ (65535 : Int32) < c1) (lo2 : ¬ c2 < 0) (hi2 : ¬ (65535 : Int32) < c2) (lo3 : ¬ c3 < 0) (hi3 : ¬ (65535 : Int32) < c3) :
    MetFree l Rm (head1 (Jvm.Cond.code Rm jdk_52_method_16_code 6 (some (.array .byte)) :: ws) ({ frames := 3, cells := 2, slots := 12, locals := 40 } : Room)) (fun a U => a = #[(.ref t0), (.int 0), (.int 4)] ∧ Z.Warmed39 U.vm ∧ U.heap = h0) (fun _ _ _ _ _ => True) (fun _ U o U' => ∃ v L, o = .returned v ∧ Io Z t0 k0 c0 c1 c2 c3 Ba Aa h0 n0 v U'.heap L ∧ FrameEnd U o U' L ({ frames := 3, cells := 2, slots := 12, locals := 40 } : Room).cells ({ frames := 3, cells := 2, slots := 12, locals := 40 } : Room).slots) := by
  refine MetFree.of_bodySF (plainFor_of_name Pa) hisR ?_
  intro p e s m args below meth c s₁ Bd hml0 hP hK
  obtain ⟨rfl, hZ, hh⟩ := hP
  have hx := Bd.exec
  have hby := Bd.bytes
  have hml : c.maxLocals = 6 := hml0
  have hown : s.vm.findClass "java/lang/StringUTF16" = some m.cls := findClass_of_methodNamed Bd.named
  have hnm := (name_of_methodNamed Bd.named Bd.method).1
  have X00 : Stand p l e ({ frames := 3, cells := 2, slots := 12, locals := 40 } : Room) s m #[(.ref t0), (.int 0), (.int 4)] below meth c s₁ [] 0 0 := Stand.of_body Bd
  have e00 : s₁.heap = h0 := by rw [← hh, Bd.state]; rfl
  have N00 := Fr.nil n0
  refine Classical.byContradiction fun hNG => ?_
  have K00 := Keep.refl h0 []
  have k00 : ∀ t, Ga p e below m s₁ 0 #[.val (.ref t0), .val (.int 0), .val (.int 4), .unset, .unset, .unset] [] t → Ra p e below m s₁ #[(.ref t0), (.int 0), (.int 4)] 6 t := fun t k => castTop (Zy m t0 ((0 : Int32)) ((4 : Int32)) ) k
  obtain ⟨Ua, La, Va, Ma, Ha, Ia, Ka⟩ := (id hE : EV Z Ba Aa)
  obtain ⟨T10, h10, c10, X10, e10, E10, A10, st10⟩ := newP X00 hx hZ (Da hw 20 rfl) e00 (g := (mkF m 1 #[.val (.ref t0), .val (.int 0), .val (.int 4), .unset, .unset, .unset] [(.int 4)])) rfl (hb hby Pk) rfl (by decide) (cap := 4) (by decide) (by decide) (by decide) (by decide)
  obtain ⟨b10, g10⟩ : ∃ z, z = h0.size := ⟨_, rfl⟩
  rw [← g10] at A10 st10
  have O10 := O0.ext E10
  have g_b10 : n0 ≤ b10 := Nat.le_trans (Nat.le_of_eq O0.1.symm) (Nat.le_trans O0.2.1 (Nat.le_of_eq g10.symm))
  have s_b10 : h0.size ≤ b10 := Nat.le_trans K00.1 (Nat.le_of_eq g10.symm)
  have K10 := K00.ext E10
  have V10 : Arv Z h10 b10 c10 .byte (4 : Int32) [(.int 0), (.int 0), (.int 0), (.int 0)] (.int 0) := (Arv.new A10 (by decide)).pad (pad_rep [] (.int 0) 4)
  have lt_b10 := V10.lt
  have ne11 : ¬ (t0 = b10) := (Nat.ne_of_lt (Nat.lt_of_lt_of_le P0.lt (Nat.le_of_eq g10.symm)))
  have f12 := (P0.ext E10)
  obtain ⟨_, _, ⟨T13, L13, k13, n13⟩, -, X13, ⟨Lc13, hQ13, l13, y13, z13⟩, st13⟩ := Jvm.LawKit.callS X10 hx (y := Lm) hown (mvT hZ (Da hw 21 rfl)) (mvT hZ (Da hw 22 rfl)) (mvT hZ (Da hw 18 rfl)) (mvT hZ (Da hw 23 rfl)) (by decide) (backOf (W := 0) (Uy l Z a0 hw [] t0 b10 k0 c10 c0 c1 c2 c3 _ _ h10 n0 O10 hE f12 V10 g_b10 ne11) hZ (Da hw 23 rfl) (Da hw 18 rfl) (by decide) (by decide)) (g := (mkF m 9 #[.val (.ref t0), .val (.int 0), .val (.int 4), .val (.ref b10), .unset, .unset] [(.int 4), (.int 0), (.ref b10), (.int 0), (.ref t0)])) rfl (by rw [hml]; rfl) (argsL := [(.ref t0), (.int 0), (.ref b10), (.int 0), (.int 4)]) (rest := []) (lenOf Dn rfl) rfl (by show 2 * 0 + _ ≤ _; exact Nat.le_of_eq rfl) (hb hby Al) (fun _ _ => ⟨rfl, e10, (by decide : 1 + 0 ≤ _), (by decide : 4 + 0 ≤ _)⟩)
  dsimp only [Pt.U, Pt.locs, Pt.cells, Pt.slots] at X13 l13 y13 z13 st13 hQ13
  subst l13 y13 z13
  obtain ⟨kk13, vs13, rfl, N13q, O13, Kc13, F13_0, D13_0⟩ := hQ13
  have N13 := Fr.app N00 N13q
  have K13 := K10.trans Kc13 (allS (Or.inr s_b10) all0)
  have k14 : ∀ t, Ga p e below m T13 12 #[.val (.ref t0), .val (.int 0), .val (.int 4), .val (.ref b10), .unset, .unset] [(.int kk13)] t → Ra p e below m s₁ #[(.ref t0), (.int 0), (.int 4)] 6 t := by
    intro t k
    refine k00 t ?_
    refine XS.iloadN X00.here hx rfl (hb hby Mk) rfl ?_
    refine st10 _ ?_
    refine XS.astoreN X10.here hx rfl (hb hby Rk) rfl rfl (l' := #[.val (.ref t0), .val (.int 0), .val (.int 4), .val (.ref b10), .unset, .unset]) rfl ?_
    refine XS.aloadN X10.here hx rfl (hb hby Uk) rfl rfl ?_
    refine XS.iloadN X10.here hx rfl (hb hby Vk) rfl ?_
    refine XS.aloadN X10.here hx rfl (hb hby Wk) rfl rfl ?_
    refine XS.iconst X10.here hx rfl (hb hby Yk) ?_
    refine XS.iloadN X10.here hx rfl (hb hby Zk) rfl ?_
    show Ga p e below m T10 9 #[.val (.ref t0), .val (.int 0), .val (.int 4), .val (.ref b10), .unset, .unset] [(.int 4), (.int 0), (.ref b10), (.int 0), (.ref t0)] t
    refine st13 _ ?_
    exact k
  rcases D13_0 with hq | ⟨hq, hb15⟩ | ⟨hq, hb15⟩ | ⟨hq, hb15⟩ | ⟨hq, hb15⟩
  · have k16 : ∀ t, Ga p e below m T13 12 #[.val (.ref t0), .val (.int 0), .val (.int 4), .val (.ref b10), .unset, .unset] [(.int 4)] t → Ra p e below m s₁ #[(.ref t0), (.int 0), (.int 4)] 6 t := by
      intro t k
      refine k14 t ?_
      rw [hq]
      exact k
    have k17 : ∀ t, Ga p e below m T13 58 #[.val (.ref t0), .val (.int 0), .val (.int 4), .val (.ref b10), .val (.int 4), .unset] [(.ref b10)] t → Ra p e below m s₁ #[(.ref t0), (.int 0), (.int 4)] 6 t := by
      intro t k
      refine k16 t ?_
      refine XS.istore X13.here hx rfl (hb hby Ab) rfl (l' := #[.val (.ref t0), .val (.int 0), .val (.int 4), .val (.ref b10), .val (.int 4), .unset]) rfl ?_
      refine XS.iload X13.here hx rfl (hb hby Bb) rfl ?_
      refine XS.iloadN X13.here hx rfl (hb hby Db) rfl ?_
      refine XS.icmpYes X13.here hx rfl (pc0 := 17) (pc' := 57) rfl (hb hby Gb) rfl (teq (by decide : (4 : Int32) = (4 : Int32))).1 (by decide) (by decide) ?_
      refine XS.aloadN X13.here hx rfl (hb hby Gj) rfl rfl ?_
      exact k
    obtain ⟨fs, hr, hrun, hended, hW, hsame⟩ := X13.leave (v := some (.ref b10)) (fun h => by rw [Bd.returns] at h; cases h)
    refine hNG ⟨_, _, k17 _ ?_, hrun, hended, _, _, rfl, ?_, ⟨_, rfl⟩, hW, hsame.mono (by decide) (by decide)⟩
    · exact retOut X13 hx (t := (.array .byte)) Bd.returns rfl (Or.inr (Or.inr (Or.inr (Or.inr ⟨rfl, rfl, rfl⟩)))) (hb hby Hj) hr
    · show Io Z t0 k0 c0 c1 c2 c3 Ba Aa h0 n0 _ T13.heap _
      exact ⟨b10, (4 : Int32), _, _, rfl, N13, O13, K13, g_b10, s_b10, F13_0, Or.inl rfl⟩
  · have k18 : ∀ t, Ga p e below m T13 12 #[.val (.ref t0), .val (.int 0), .val (.int 4), .val (.ref b10), .unset, .unset] [(.int 0)] t → Ra p e below m s₁ #[(.ref t0), (.int 0), (.int 4)] 6 t := by
      intro t k
      refine k14 t ?_
      rw [hq]
      exact k
    have f19 := (f12.keep Kc13 (fun q => ne11 (List.mem_singleton.mp q)))
    obtain ⟨_, _, ⟨T20, L20, k20, n20⟩, -, X20, ⟨Lc20, hQ20, l20, y20, z20⟩, st20⟩ := Jvm.LawKit.callS X13 hx (y := Am) hown (mvT hZ (Da hw 47 rfl)) (mvT hZ (Da hw 48 rfl)) (mvT hZ (Da hw 18 rfl)) (mvT hZ (Da hw 49 rfl)) (by decide) (backOf (W := 0) (Ap l Z a0 hw [] t0 k0 c0 c1 c2 c3 _ _ T13.heap n0 O13 hE f19 ) hZ (Da hw 49 rfl) (Da hw 18 rfl) (by decide) (by decide)) (g := (mkF m 23 #[.val (.ref t0), .val (.int 0), .val (.int 4), .val (.ref b10), .val (.int 0), .unset] [(.int 4), (.int 0), (.ref t0)])) rfl (by rw [hml]; rfl) (argsL := [(.ref t0), (.int 0), (.int 4)]) (rest := []) (lenOf Ii rfl) rfl (by show 2 * 0 + _ ≤ _; exact Nat.le_of_eq rfl) (hb hby Kd) (fun _ _ => ⟨rfl, rfl, (by decide : 1 + 1 ≤ _), (by decide : 4 + 8 ≤ _)⟩)
    dsimp only [Pt.U, Pt.locs, Pt.cells, Pt.slots] at X20 l20 y20 z20 st20 hQ20
    subst l20 y20 z20
    obtain ⟨b20, k20, rfl, N20q, O20, Kc20, g_b20, gs_b20, F20_0⟩ := hQ20
    have N20 := Fr.app N13 N20q
    have K20 := K13.trans Kc20 (fun x hx => nomatch hx)
    have s_b20 := Nat.le_trans K13.1 gs_b20
    have lt_b20 := F20_0.lt
    obtain ⟨_, _, ⟨T21, L21, k21, n21⟩, -, X21, ⟨Lc21, hQ21, l21, y21, z21⟩, st21⟩ := Jvm.LawKit.callS X20 hx (y := Hi) hown (mvT hZ (Da hw 63 rfl)) (mvT hZ (Da hw 64 rfl)) (mvT hZ (Da hw 18 rfl)) (mvT hZ (Da hw 65 rfl)) (by decide) (backOf (W := 0) (Vv l Z a0 hw [] b20 k20 ((c0 >>> ((0 : Int32) &&& 31)).toInt8.toInt32) ((c0 >>> ((8 : Int32) &&& 31)).toInt8.toInt32) ((c1 >>> ((0 : Int32) &&& 31)).toInt8.toInt32) ((c1 >>> ((8 : Int32) &&& 31)).toInt8.toInt32) ((c2 >>> ((0 : Int32) &&& 31)).toInt8.toInt32) ((c2 >>> ((8 : Int32) &&& 31)).toInt8.toInt32) ((c3 >>> ((0 : Int32) &&& 31)).toInt8.toInt32) ((c3 >>> ((8 : Int32) &&& 31)).toInt8.toInt32) _ _ T20.heap n0 O20 hE F20_0 ) hZ (Da hw 65 rfl) (Da hw 18 rfl) (by decide) (by decide)) (g := (mkF m 32 #[.val (.ref t0), .val (.int 0), .val (.int 4), .val (.ref b10), .val (.int 0), .val (.ref b20)] [(.int 0), (.ref b20)])) rfl (by rw [hml]; rfl) (argsL := [(.ref b20), (.int 0)]) (rest := []) (lenOf Gm rfl) rfl (by show 2 * 0 + _ ≤ _; exact Nat.le_of_eq rfl) (hb hby Rd) (fun _ _ => ⟨rfl, rfl, (by decide : 2 + 0 ≤ _), (by decide : 12 + 0 ≤ _)⟩)
    dsimp only [Pt.U, Pt.locs, Pt.cells, Pt.slots] at X21 l21 y21 z21 st21 hQ21
    subst l21 y21 z21
    obtain ⟨rfl, N21q, hp21⟩ := hQ21
    have N21 := Fr.app N20 N21q
    have k22 : ∀ t, Ga p e below m T21 56 #[.val (.ref t0), .val (.int 0), .val (.int 4), .val (.ref b10), .val (.int 0), .val (.ref b20)] [(.ref b20)] t → Ra p e below m s₁ #[(.ref t0), (.int 0), (.int 4)] 6 t := by
      intro t k
      refine k18 t ?_
      refine XS.istore X13.here hx rfl (hb hby Ab) rfl (l' := #[.val (.ref t0), .val (.int 0), .val (.int 4), .val (.ref b10), .val (.int 0), .unset]) rfl ?_
      refine XS.iload X13.here hx rfl (hb hby Bb) rfl ?_
      refine XS.iloadN X13.here hx rfl (hb hby Db) rfl ?_
      refine XS.icmpNo X13.here hx rfl (hb hby Gb) rfl (feq (by decide : ¬ ((0 : Int32) = (4 : Int32)))).1 ?_
      refine XS.aloadN X13.here hx rfl (hb hby Gd) rfl rfl ?_
      refine XS.iloadN X13.here hx rfl (hb hby Hd) rfl ?_
      refine XS.iloadN X13.here hx rfl (hb hby Id) rfl ?_
      refine st20 _ ?_
      show Ga p e below m T20 26 #[.val (.ref t0), .val (.int 0), .val (.int 4), .val (.ref b10), .val (.int 0), .unset] [(.ref b20)] t
      refine XS.astore X20.here hx rfl (hb hby Ld) rfl rfl (l' := #[.val (.ref t0), .val (.int 0), .val (.int 4), .val (.ref b10), .val (.int 0), .val (.ref b20)]) rfl ?_
      refine XS.aload X20.here hx rfl (hb hby Md) rfl rfl ?_
      refine XS.iload X20.here hx rfl (hb hby Pd) rfl ?_
      refine st21 _ ?_
      refine XS.sipush X21.here hx rfl (hb hby Ud) ?_
      refine XS.icmpYes X21.here hx rfl (pc0 := 38) (pc' := 54) rfl (hb hby Vd) rfl (tlt (by rw [Hm lo0 hi0]; exact hb15)).2.2.1 (by decide) (by decide) ?_
      refine XS.aload X21.here hx rfl (hb hby Wd) rfl rfl ?_
      exact k
    obtain ⟨fs, hr, hrun, hended, hW, hsame⟩ := X21.leave (v := some (.ref b20)) (fun h => by rw [Bd.returns] at h; cases h)
    refine hNG ⟨_, _, k22 _ ?_, hrun, hended, _, _, rfl, ?_, ⟨_, rfl⟩, hW, hsame.mono (by decide) (by decide)⟩
    · exact retOut X21 hx (t := (.array .byte)) Bd.returns rfl (Or.inr (Or.inr (Or.inr (Or.inr ⟨rfl, rfl, rfl⟩)))) (hb hby Yd) hr
    · show Io Z t0 k0 c0 c1 c2 c3 Ba Aa h0 n0 _ T21.heap _
      rw [hp21]
      exact ⟨b20, (8 : Int32), _, _, rfl, N21, O20, K20, g_b20, s_b20, F20_0, Or.inr rfl⟩
  · have k23 : ∀ t, Ga p e below m T13 12 #[.val (.ref t0), .val (.int 0), .val (.int 4), .val (.ref b10), .unset, .unset] [(.int 1)] t → Ra p e below m s₁ #[(.ref t0), (.int 0), (.int 4)] 6 t := by
      intro t k
      refine k14 t ?_
      rw [hq]
      exact k
    have f24 := (f12.keep Kc13 (fun q => ne11 (List.mem_singleton.mp q)))
    obtain ⟨_, _, ⟨T25, L25, k25, n25⟩, -, X25, ⟨Lc25, hQ25, l25, y25, z25⟩, st25⟩ := Jvm.LawKit.callS X13 hx (y := Am) hown (mvT hZ (Da hw 47 rfl)) (mvT hZ (Da hw 48 rfl)) (mvT hZ (Da hw 18 rfl)) (mvT hZ (Da hw 49 rfl)) (by decide) (backOf (W := 0) (Ap l Z a0 hw [] t0 k0 c0 c1 c2 c3 _ _ T13.heap n0 O13 hE f24 ) hZ (Da hw 49 rfl) (Da hw 18 rfl) (by decide) (by decide)) (g := (mkF m 23 #[.val (.ref t0), .val (.int 0), .val (.int 4), .val (.ref b10), .val (.int 1), .unset] [(.int 4), (.int 0), (.ref t0)])) rfl (by rw [hml]; rfl) (argsL := [(.ref t0), (.int 0), (.int 4)]) (rest := []) (lenOf Ii rfl) rfl (by show 2 * 0 + _ ≤ _; exact Nat.le_of_eq rfl) (hb hby Kd) (fun _ _ => ⟨rfl, rfl, (by decide : 1 + 1 ≤ _), (by decide : 4 + 8 ≤ _)⟩)
    dsimp only [Pt.U, Pt.locs, Pt.cells, Pt.slots] at X25 l25 y25 z25 st25 hQ25
    subst l25 y25 z25
    obtain ⟨b25, k25, rfl, N25q, O25, Kc25, g_b25, gs_b25, F25_0⟩ := hQ25
    have N25 := Fr.app N13 N25q
    have K25 := K13.trans Kc25 (fun x hx => nomatch hx)
    have s_b25 := Nat.le_trans K13.1 gs_b25
    have lt_b25 := F25_0.lt
    obtain ⟨_, _, ⟨T26, L26, k26, n26⟩, -, X26, ⟨Lc26, hQ26, l26, y26, z26⟩, st26⟩ := Jvm.LawKit.callS X25 hx (y := Hi) hown (mvT hZ (Da hw 63 rfl)) (mvT hZ (Da hw 64 rfl)) (mvT hZ (Da hw 18 rfl)) (mvT hZ (Da hw 65 rfl)) (by decide) (backOf (W := 0) (Yv l Z a0 hw [] b25 k25 ((c0 >>> ((0 : Int32) &&& 31)).toInt8.toInt32) ((c0 >>> ((8 : Int32) &&& 31)).toInt8.toInt32) ((c1 >>> ((0 : Int32) &&& 31)).toInt8.toInt32) ((c1 >>> ((8 : Int32) &&& 31)).toInt8.toInt32) ((c2 >>> ((0 : Int32) &&& 31)).toInt8.toInt32) ((c2 >>> ((8 : Int32) &&& 31)).toInt8.toInt32) ((c3 >>> ((0 : Int32) &&& 31)).toInt8.toInt32) ((c3 >>> ((8 : Int32) &&& 31)).toInt8.toInt32) _ _ T25.heap n0 O25 hE F25_0 ) hZ (Da hw 65 rfl) (Da hw 18 rfl) (by decide) (by decide)) (g := (mkF m 32 #[.val (.ref t0), .val (.int 0), .val (.int 4), .val (.ref b10), .val (.int 1), .val (.ref b25)] [(.int 1), (.ref b25)])) rfl (by rw [hml]; rfl) (argsL := [(.ref b25), (.int 1)]) (rest := []) (lenOf Gm rfl) rfl (by show 2 * 0 + _ ≤ _; exact Nat.le_of_eq rfl) (hb hby Rd) (fun _ _ => ⟨rfl, rfl, (by decide : 2 + 0 ≤ _), (by decide : 12 + 0 ≤ _)⟩)
    dsimp only [Pt.U, Pt.locs, Pt.cells, Pt.slots] at X26 l26 y26 z26 st26 hQ26
    subst l26 y26 z26
    obtain ⟨rfl, N26q, hp26⟩ := hQ26
    have N26 := Fr.app N25 N26q
    have k27 : ∀ t, Ga p e below m T26 56 #[.val (.ref t0), .val (.int 0), .val (.int 4), .val (.ref b10), .val (.int 1), .val (.ref b25)] [(.ref b25)] t → Ra p e below m s₁ #[(.ref t0), (.int 0), (.int 4)] 6 t := by
      intro t k
      refine k23 t ?_
      refine XS.istore X13.here hx rfl (hb hby Ab) rfl (l' := #[.val (.ref t0), .val (.int 0), .val (.int 4), .val (.ref b10), .val (.int 1), .unset]) rfl ?_
      refine XS.iload X13.here hx rfl (hb hby Bb) rfl ?_
      refine XS.iloadN X13.here hx rfl (hb hby Db) rfl ?_
      refine XS.icmpNo X13.here hx rfl (hb hby Gb) rfl (feq (by decide : ¬ ((1 : Int32) = (4 : Int32)))).1 ?_
      refine XS.aloadN X13.here hx rfl (hb hby Gd) rfl rfl ?_
      refine XS.iloadN X13.here hx rfl (hb hby Hd) rfl ?_
      refine XS.iloadN X13.here hx rfl (hb hby Id) rfl ?_
      refine st25 _ ?_
      show Ga p e below m T25 26 #[.val (.ref t0), .val (.int 0), .val (.int 4), .val (.ref b10), .val (.int 1), .unset] [(.ref b25)] t
      refine XS.astore X25.here hx rfl (hb hby Ld) rfl rfl (l' := #[.val (.ref t0), .val (.int 0), .val (.int 4), .val (.ref b10), .val (.int 1), .val (.ref b25)]) rfl ?_
      refine XS.aload X25.here hx rfl (hb hby Md) rfl rfl ?_
      refine XS.iload X25.here hx rfl (hb hby Pd) rfl ?_
      refine st26 _ ?_
      refine XS.sipush X26.here hx rfl (hb hby Ud) ?_
      refine XS.icmpYes X26.here hx rfl (pc0 := 38) (pc' := 54) rfl (hb hby Vd) rfl (tlt (by rw [Hm lo1 hi1]; exact hb15)).2.2.1 (by decide) (by decide) ?_
      refine XS.aload X26.here hx rfl (hb hby Wd) rfl rfl ?_
      exact k
    obtain ⟨fs, hr, hrun, hended, hW, hsame⟩ := X26.leave (v := some (.ref b25)) (fun h => by rw [Bd.returns] at h; cases h)
    refine hNG ⟨_, _, k27 _ ?_, hrun, hended, _, _, rfl, ?_, ⟨_, rfl⟩, hW, hsame.mono (by decide) (by decide)⟩
    · exact retOut X26 hx (t := (.array .byte)) Bd.returns rfl (Or.inr (Or.inr (Or.inr (Or.inr ⟨rfl, rfl, rfl⟩)))) (hb hby Yd) hr
    · show Io Z t0 k0 c0 c1 c2 c3 Ba Aa h0 n0 _ T26.heap _
      rw [hp26]
      exact ⟨b25, (8 : Int32), _, _, rfl, N26, O25, K25, g_b25, s_b25, F25_0, Or.inr rfl⟩
  · have k28 : ∀ t, Ga p e below m T13 12 #[.val (.ref t0), .val (.int 0), .val (.int 4), .val (.ref b10), .unset, .unset] [(.int 2)] t → Ra p e below m s₁ #[(.ref t0), (.int 0), (.int 4)] 6 t := by
      intro t k
      refine k14 t ?_
      rw [hq]
      exact k
    have f29 := (f12.keep Kc13 (fun q => ne11 (List.mem_singleton.mp q)))
    obtain ⟨_, _, ⟨T30, L30, k30, n30⟩, -, X30, ⟨Lc30, hQ30, l30, y30, z30⟩, st30⟩ := Jvm.LawKit.callS X13 hx (y := Am) hown (mvT hZ (Da hw 47 rfl)) (mvT hZ (Da hw 48 rfl)) (mvT hZ (Da hw 18 rfl)) (mvT hZ (Da hw 49 rfl)) (by decide) (backOf (W := 0) (Ap l Z a0 hw [] t0 k0 c0 c1 c2 c3 _ _ T13.heap n0 O13 hE f29 ) hZ (Da hw 49 rfl) (Da hw 18 rfl) (by decide) (by decide)) (g := (mkF m 23 #[.val (.ref t0), .val (.int 0), .val (.int 4), .val (.ref b10), .val (.int 2), .unset] [(.int 4), (.int 0), (.ref t0)])) rfl (by rw [hml]; rfl) (argsL := [(.ref t0), (.int 0), (.int 4)]) (rest := []) (lenOf Ii rfl) rfl (by show 2 * 0 + _ ≤ _; exact Nat.le_of_eq rfl) (hb hby Kd) (fun _ _ => ⟨rfl, rfl, (by decide : 1 + 1 ≤ _), (by decide : 4 + 8 ≤ _)⟩)
    dsimp only [Pt.U, Pt.locs, Pt.cells, Pt.slots] at X30 l30 y30 z30 st30 hQ30
    subst l30 y30 z30
    obtain ⟨b30, k30, rfl, N30q, O30, Kc30, g_b30, gs_b30, F30_0⟩ := hQ30
    have N30 := Fr.app N13 N30q
    have K30 := K13.trans Kc30 (fun x hx => nomatch hx)
    have s_b30 := Nat.le_trans K13.1 gs_b30
    have lt_b30 := F30_0.lt
    obtain ⟨_, _, ⟨T31, L31, k31, n31⟩, -, X31, ⟨Lc31, hQ31, l31, y31, z31⟩, st31⟩ := Jvm.LawKit.callS X30 hx (y := Hi) hown (mvT hZ (Da hw 63 rfl)) (mvT hZ (Da hw 64 rfl)) (mvT hZ (Da hw 18 rfl)) (mvT hZ (Da hw 65 rfl)) (by decide) (backOf (W := 0) (Aw l Z a0 hw [] b30 k30 ((c0 >>> ((0 : Int32) &&& 31)).toInt8.toInt32) ((c0 >>> ((8 : Int32) &&& 31)).toInt8.toInt32) ((c1 >>> ((0 : Int32) &&& 31)).toInt8.toInt32) ((c1 >>> ((8 : Int32) &&& 31)).toInt8.toInt32) ((c2 >>> ((0 : Int32) &&& 31)).toInt8.toInt32) ((c2 >>> ((8 : Int32) &&& 31)).toInt8.toInt32) ((c3 >>> ((0 : Int32) &&& 31)).toInt8.toInt32) ((c3 >>> ((8 : Int32) &&& 31)).toInt8.toInt32) _ _ T30.heap n0 O30 hE F30_0 ) hZ (Da hw 65 rfl) (Da hw 18 rfl) (by decide) (by decide)) (g := (mkF m 32 #[.val (.ref t0), .val (.int 0), .val (.int 4), .val (.ref b10), .val (.int 2), .val (.ref b30)] [(.int 2), (.ref b30)])) rfl (by rw [hml]; rfl) (argsL := [(.ref b30), (.int 2)]) (rest := []) (lenOf Gm rfl) rfl (by show 2 * 0 + _ ≤ _; exact Nat.le_of_eq rfl) (hb hby Rd) (fun _ _ => ⟨rfl, rfl, (by decide : 2 + 0 ≤ _), (by decide : 12 + 0 ≤ _)⟩)
    dsimp only [Pt.U, Pt.locs, Pt.cells, Pt.slots] at X31 l31 y31 z31 st31 hQ31
    subst l31 y31 z31
    obtain ⟨rfl, N31q, hp31⟩ := hQ31
    have N31 := Fr.app N30 N31q
    have k32 : ∀ t, Ga p e below m T31 56 #[.val (.ref t0), .val (.int 0), .val (.int 4), .val (.ref b10), .val (.int 2), .val (.ref b30)] [(.ref b30)] t → Ra p e below m s₁ #[(.ref t0), (.int 0), (.int 4)] 6 t := by
      intro t k
      refine k28 t ?_
      refine XS.istore X13.here hx rfl (hb hby Ab) rfl (l' := #[.val (.ref t0), .val (.int 0), .val (.int 4), .val (.ref b10), .val (.int 2), .unset]) rfl ?_
      refine XS.iload X13.here hx rfl (hb hby Bb) rfl ?_
      refine XS.iloadN X13.here hx rfl (hb hby Db) rfl ?_
      refine XS.icmpNo X13.here hx rfl (hb hby Gb) rfl (feq (by decide : ¬ ((2 : Int32) = (4 : Int32)))).1 ?_
      refine XS.aloadN X13.here hx rfl (hb hby Gd) rfl rfl ?_
      refine XS.iloadN X13.here hx rfl (hb hby Hd) rfl ?_
      refine XS.iloadN X13.here hx rfl (hb hby Id) rfl ?_
      refine st30 _ ?_
      show Ga p e below m T30 26 #[.val (.ref t0), .val (.int 0), .val (.int 4), .val (.ref b10), .val (.int 2), .unset] [(.ref b30)] t
      refine XS.astore X30.here hx rfl (hb hby Ld) rfl rfl (l' := #[.val (.ref t0), .val (.int 0), .val (.int 4), .val (.ref b10), .val (.int 2), .val (.ref b30)]) rfl ?_
      refine XS.aload X30.here hx rfl (hb hby Md) rfl rfl ?_
      refine XS.iload X30.here hx rfl (hb hby Pd) rfl ?_
      refine st31 _ ?_
      refine XS.sipush X31.here hx rfl (hb hby Ud) ?_
      refine XS.icmpYes X31.here hx rfl (pc0 := 38) (pc' := 54) rfl (hb hby Vd) rfl (tlt (by rw [Hm lo2 hi2]; exact hb15)).2.2.1 (by decide) (by decide) ?_
      refine XS.aload X31.here hx rfl (hb hby Wd) rfl rfl ?_
      exact k
    obtain ⟨fs, hr, hrun, hended, hW, hsame⟩ := X31.leave (v := some (.ref b30)) (fun h => by rw [Bd.returns] at h; cases h)
    refine hNG ⟨_, _, k32 _ ?_, hrun, hended, _, _, rfl, ?_, ⟨_, rfl⟩, hW, hsame.mono (by decide) (by decide)⟩
    · exact retOut X31 hx (t := (.array .byte)) Bd.returns rfl (Or.inr (Or.inr (Or.inr (Or.inr ⟨rfl, rfl, rfl⟩)))) (hb hby Yd) hr
    · show Io Z t0 k0 c0 c1 c2 c3 Ba Aa h0 n0 _ T31.heap _
      rw [hp31]
      exact ⟨b30, (8 : Int32), _, _, rfl, N31, O30, K30, g_b30, s_b30, F30_0, Or.inr rfl⟩
  · have k33 : ∀ t, Ga p e below m T13 12 #[.val (.ref t0), .val (.int 0), .val (.int 4), .val (.ref b10), .unset, .unset] [(.int 3)] t → Ra p e below m s₁ #[(.ref t0), (.int 0), (.int 4)] 6 t := by
      intro t k
      refine k14 t ?_
      rw [hq]
      exact k
    have f34 := (f12.keep Kc13 (fun q => ne11 (List.mem_singleton.mp q)))
    obtain ⟨_, _, ⟨T35, L35, k35, n35⟩, -, X35, ⟨Lc35, hQ35, l35, y35, z35⟩, st35⟩ := Jvm.LawKit.callS X13 hx (y := Am) hown (mvT hZ (Da hw 47 rfl)) (mvT hZ (Da hw 48 rfl)) (mvT hZ (Da hw 18 rfl)) (mvT hZ (Da hw 49 rfl)) (by decide) (backOf (W := 0) (Ap l Z a0 hw [] t0 k0 c0 c1 c2 c3 _ _ T13.heap n0 O13 hE f34 ) hZ (Da hw 49 rfl) (Da hw 18 rfl) (by decide) (by decide)) (g := (mkF m 23 #[.val (.ref t0), .val (.int 0), .val (.int 4), .val (.ref b10), .val (.int 3), .unset] [(.int 4), (.int 0), (.ref t0)])) rfl (by rw [hml]; rfl) (argsL := [(.ref t0), (.int 0), (.int 4)]) (rest := []) (lenOf Ii rfl) rfl (by show 2 * 0 + _ ≤ _; exact Nat.le_of_eq rfl) (hb hby Kd) (fun _ _ => ⟨rfl, rfl, (by decide : 1 + 1 ≤ _), (by decide : 4 + 8 ≤ _)⟩)
    dsimp only [Pt.U, Pt.locs, Pt.cells, Pt.slots] at X35 l35 y35 z35 st35 hQ35
    subst l35 y35 z35
    obtain ⟨b35, k35, rfl, N35q, O35, Kc35, g_b35, gs_b35, F35_0⟩ := hQ35
    have N35 := Fr.app N13 N35q
    have K35 := K13.trans Kc35 (fun x hx => nomatch hx)
    have s_b35 := Nat.le_trans K13.1 gs_b35
    have lt_b35 := F35_0.lt
    obtain ⟨_, _, ⟨T36, L36, k36, n36⟩, -, X36, ⟨Lc36, hQ36, l36, y36, z36⟩, st36⟩ := Jvm.LawKit.callS X35 hx (y := Hi) hown (mvT hZ (Da hw 63 rfl)) (mvT hZ (Da hw 64 rfl)) (mvT hZ (Da hw 18 rfl)) (mvT hZ (Da hw 65 rfl)) (by decide) (backOf (W := 0) (Dw l Z a0 hw [] b35 k35 ((c0 >>> ((0 : Int32) &&& 31)).toInt8.toInt32) ((c0 >>> ((8 : Int32) &&& 31)).toInt8.toInt32) ((c1 >>> ((0 : Int32) &&& 31)).toInt8.toInt32) ((c1 >>> ((8 : Int32) &&& 31)).toInt8.toInt32) ((c2 >>> ((0 : Int32) &&& 31)).toInt8.toInt32) ((c2 >>> ((8 : Int32) &&& 31)).toInt8.toInt32) ((c3 >>> ((0 : Int32) &&& 31)).toInt8.toInt32) ((c3 >>> ((8 : Int32) &&& 31)).toInt8.toInt32) _ _ T35.heap n0 O35 hE F35_0 ) hZ (Da hw 65 rfl) (Da hw 18 rfl) (by decide) (by decide)) (g := (mkF m 32 #[.val (.ref t0), .val (.int 0), .val (.int 4), .val (.ref b10), .val (.int 3), .val (.ref b35)] [(.int 3), (.ref b35)])) rfl (by rw [hml]; rfl) (argsL := [(.ref b35), (.int 3)]) (rest := []) (lenOf Gm rfl) rfl (by show 2 * 0 + _ ≤ _; exact Nat.le_of_eq rfl) (hb hby Rd) (fun _ _ => ⟨rfl, rfl, (by decide : 2 + 0 ≤ _), (by decide : 12 + 0 ≤ _)⟩)
    dsimp only [Pt.U, Pt.locs, Pt.cells, Pt.slots] at X36 l36 y36 z36 st36 hQ36
    subst l36 y36 z36
    obtain ⟨rfl, N36q, hp36⟩ := hQ36
    have N36 := Fr.app N35 N36q
    have k37 : ∀ t, Ga p e below m T36 56 #[.val (.ref t0), .val (.int 0), .val (.int 4), .val (.ref b10), .val (.int 3), .val (.ref b35)] [(.ref b35)] t → Ra p e below m s₁ #[(.ref t0), (.int 0), (.int 4)] 6 t := by
      intro t k
      refine k33 t ?_
      refine XS.istore X13.here hx rfl (hb hby Ab) rfl (l' := #[.val (.ref t0), .val (.int 0), .val (.int 4), .val (.ref b10), .val (.int 3), .unset]) rfl ?_
      refine XS.iload X13.here hx rfl (hb hby Bb) rfl ?_
      refine XS.iloadN X13.here hx rfl (hb hby Db) rfl ?_
      refine XS.icmpNo X13.here hx rfl (hb hby Gb) rfl (feq (by decide : ¬ ((3 : Int32) = (4 : Int32)))).1 ?_
      refine XS.aloadN X13.here hx rfl (hb hby Gd) rfl rfl ?_
      refine XS.iloadN X13.here hx rfl (hb hby Hd) rfl ?_
      refine XS.iloadN X13.here hx rfl (hb hby Id) rfl ?_
      refine st35 _ ?_
      show Ga p e below m T35 26 #[.val (.ref t0), .val (.int 0), .val (.int 4), .val (.ref b10), .val (.int 3), .unset] [(.ref b35)] t
      refine XS.astore X35.here hx rfl (hb hby Ld) rfl rfl (l' := #[.val (.ref t0), .val (.int 0), .val (.int 4), .val (.ref b10), .val (.int 3), .val (.ref b35)]) rfl ?_
      refine XS.aload X35.here hx rfl (hb hby Md) rfl rfl ?_
      refine XS.iload X35.here hx rfl (hb hby Pd) rfl ?_
      refine st36 _ ?_
      refine XS.sipush X36.here hx rfl (hb hby Ud) ?_
      refine XS.icmpYes X36.here hx rfl (pc0 := 38) (pc' := 54) rfl (hb hby Vd) rfl (tlt (by rw [Hm lo3 hi3]; exact hb15)).2.2.1 (by decide) (by decide) ?_
      refine XS.aload X36.here hx rfl (hb hby Wd) rfl rfl ?_
      exact k
    obtain ⟨fs, hr, hrun, hended, hW, hsame⟩ := X36.leave (v := some (.ref b35)) (fun h => by rw [Bd.returns] at h; cases h)
    refine hNG ⟨_, _, k37 _ ?_, hrun, hended, _, _, rfl, ?_, ⟨_, rfl⟩, hW, hsame.mono (by decide) (by decide)⟩
    · exact retOut X36 hx (t := (.array .byte)) Bd.returns rfl (Or.inr (Or.inr (Or.inr (Or.inr ⟨rfl, rfl, rfl⟩)))) (hb hby Yd) hr
    · show Io Z t0 k0 c0 c1 c2 c3 Ba Aa h0 n0 _ T36.heap _
      rw [hp36]
      exact ⟨b35, (8 : Int32), _, _, rfl, N36, O35, K35, g_b35, s_b35, F35_0, Or.inr rfl⟩
theorem Gw (m : MethodId) (x0 : Addr) (x1 : Int32)  : entryFrame m #[(.ref x0), (.int x1)] 2 = mkF m 0 #[.val (.ref x0), .val (.int x1)] [] := by first | (simp [entryFrame, mkF, argsToLocals, Value.category]; done) | rfl
def Zr (Z : State) (q0 : Addr) (k0 : ClassId) (vs : List Value) (Ba : Int32) (Aa : Value) (h0 : Heap) (n0 : Nat) (v : Option Value) (h : Heap) (L : List Loc) : Prop := v = some (.int 0) ∧ Fr n0 L ∧ h = h0
set_option maxRecDepth 65536 in
set_option maxHeartbeats 40000000 in
theorem Hw (l : Launch) (Z : State) (a0 : Array Value) (hw : ∀ d ∈ tables_1, d.before a0 Z = true) (ws : List Jvm.Cond) (q0 : Addr) (k0 : ClassId) (vs : List Value) (Ba : Int32) (Aa : Value) (h0 : Heap) (n0 : Nat) (O0 : Old Z n0 h0) (hE : EV Z Ba Aa) (P0 : Arv Z h0 q0 k0 .byte (4 : Int32) vs (.int 0)) :
    MetFree l Ki (head1 (Jvm.Cond.code Ki jdk_52_method_15_code 2 (some .byte) :: ws) ({ frames := 0, cells := 0, slots := 0, locals := 0 } : Room)) (fun a U => a = #[(.ref q0), (.int 4)] ∧ Z.Warmed39 U.vm ∧ U.heap = h0) (fun _ _ _ _ _ => True) (fun _ U o U' => ∃ v L, o = .returned v ∧ Zr Z q0 k0 vs Ba Aa h0 n0 v U'.heap L ∧ FrameEnd U o U' L ({ frames := 0, cells := 0, slots := 0, locals := 0 } : Room).cells ({ frames := 0, cells := 0, slots := 0, locals := 0 } : Room).slots) := by
  refine MetFree.of_bodySF (plainFor_of_name Pa) hisR ?_
  intro p e s m args below meth c s₁ Bd hml0 hP hK
  obtain ⟨rfl, hZ, hh⟩ := hP
  have hx := Bd.exec
  have hby := Bd.bytes
  have hml : c.maxLocals = 2 := hml0
  have hown : s.vm.findClass "java/lang/StringUTF16" = some m.cls := findClass_of_methodNamed Bd.named
  have hnm := (name_of_methodNamed Bd.named Bd.method).1
  have X00 : Stand p l e ({ frames := 0, cells := 0, slots := 0, locals := 0 } : Room) s m #[(.ref q0), (.int 4)] below meth c s₁ [] 0 0 := Stand.of_body Bd
  have e00 : s₁.heap = h0 := by rw [← hh, Bd.state]; rfl
  have N00 := Fr.nil n0
  refine Classical.byContradiction fun hNG => ?_
  have K00 := Keep.refl h0 []
  have k00 : ∀ t, Ga p e below m s₁ 0 #[.val (.ref q0), .val (.int 4)] [] t → Ra p e below m s₁ #[(.ref q0), (.int 4)] 2 t := fun t k => castTop (Gw m q0 ((4 : Int32)) ) k
  obtain ⟨Ua, La, Va, Ma, Ha, Ia, Ka⟩ := (id hE : EV Z Ba Aa)
  obtain ⟨cl10, Ar10, q10, Sz10, Nn10, Hs10, Gf10⟩ := id P0
  have k11 : ∀ t, Ga p e below m s₁ 8 #[.val (.ref q0), .val (.int 4)] [(.int 0)] t → Ra p e below m s₁ #[(.ref q0), (.int 4)] 2 t := by
    intro t k
    refine k00 t ?_
    refine XS.iloadN X00.here hx rfl (hb hby Mh) rfl ?_
    refine XS.aloadN X00.here hx rfl (hb hby Ph) rfl rfl ?_
    refine X00.arraylength hx (by rw [e00]; exact Ar10.1) (State.isArrayOf_alike hZ.alike Ar10.2.1) (g := (mkF m 2 #[.val (.ref q0), .val (.int 4)] [(.ref q0), (.int 4)])) rfl rfl (hb hby Rh) _ ?_
    rw [len_of Sz10 Nn10]
    refine XS.isub X00.here hx rfl (hb hby Uh) rfl ?_
    show Ga p e below m s₁ 4 #[.val (.ref q0), .val (.int 4)] [(.int ((4 : Int32) - (4 : Int32)))] t
    rw [show ((4 : Int32) - (4 : Int32)) = (0 : Int32) from by decide]
    refine XS.bipush X00.here hx rfl (hb hby Vh) ?_
    refine XS.iushr X00.here hx rfl (hb hby Wh) rfl ?_
    show Ga p e below m s₁ 7 #[.val (.ref q0), .val (.int 4)] [(.int (((0 : Int32).toUInt32 >>> ((31 : Int32) &&& 31).toUInt32).toInt32))] t
    rw [show (((0 : Int32).toUInt32 >>> ((31 : Int32) &&& 31).toUInt32).toInt32) = (0 : Int32) from by decide]
    show Ga p e below m s₁ 7 #[.val (.ref q0), .val (.int 4)] [(.int 0)] t
    refine XS.i2b X00.here hx rfl (hb hby Yh) rfl ?_
    show Ga p e below m s₁ 8 #[.val (.ref q0), .val (.int 4)] [(.int ((0 : Int32).toInt8.toInt32))] t
    rw [show ((0 : Int32).toInt8.toInt32) = (0 : Int32) from by decide]
    exact k
  obtain ⟨fs, hr, hrun, hended, hW, hsame⟩ := X00.leave (v := some (.int 0)) (fun h => by rw [Bd.returns] at h; cases h)
  refine hNG ⟨_, _, k11 _ ?_, hrun, hended, _, _, rfl, ?_, ⟨_, rfl⟩, hW, hsame.mono (by decide) (by decide)⟩
  · exact retN X00 hx (t := .byte) Bd.returns (by simp) (hb hby Zh) (by first | exact hr | (rw [show nar .byte (0 : Int32) = (0 : Int32) from by first | rfl | exact Wi _ | decide]; exact hr))
  · show Zr Z q0 k0 vs Ba Aa h0 n0 _ s₁.heap _
    rw [e00]
    exact ⟨rfl, N00, rfl⟩
theorem Iw (m : MethodId) (x0 : Addr) (x1 : Int32)  : entryFrame m #[(.ref x0), (.int x1)] 2 = mkF m 0 #[.val (.ref x0), .val (.int x1)] [] := by first | (simp [entryFrame, mkF, argsToLocals, Value.category]; done) | rfl
def As (Z : State) (q0 : Addr) (k0 : ClassId) (vs : List Value) (Ba : Int32) (Aa : Value) (h0 : Heap) (n0 : Nat) (v : Option Value) (h : Heap) (L : List Loc) : Prop := v = some (.int 1) ∧ Fr n0 L ∧ h = h0
set_option maxRecDepth 65536 in
set_option maxHeartbeats 40000000 in
theorem Kw (l : Launch) (Z : State) (a0 : Array Value) (hw : ∀ d ∈ tables_1, d.before a0 Z = true) (ws : List Jvm.Cond) (q0 : Addr) (k0 : ClassId) (vs : List Value) (Ba : Int32) (Aa : Value) (h0 : Heap) (n0 : Nat) (O0 : Old Z n0 h0) (hE : EV Z Ba Aa) (P0 : Arv Z h0 q0 k0 .byte (8 : Int32) vs (.int 0)) :
    MetFree l Ki (head1 (Jvm.Cond.code Ki jdk_52_method_15_code 2 (some .byte) :: ws) ({ frames := 0, cells := 0, slots := 0, locals := 0 } : Room)) (fun a U => a = #[(.ref q0), (.int 4)] ∧ Z.Warmed39 U.vm ∧ U.heap = h0) (fun _ _ _ _ _ => True) (fun _ U o U' => ∃ v L, o = .returned v ∧ As Z q0 k0 vs Ba Aa h0 n0 v U'.heap L ∧ FrameEnd U o U' L ({ frames := 0, cells := 0, slots := 0, locals := 0 } : Room).cells ({ frames := 0, cells := 0, slots := 0, locals := 0 } : Room).slots) := by
  refine MetFree.of_bodySF (plainFor_of_name Pa) hisR ?_
  intro p e s m args below meth c s₁ Bd hml0 hP hK
  obtain ⟨rfl, hZ, hh⟩ := hP
  have hx := Bd.exec
  have hby := Bd.bytes
  have hml : c.maxLocals = 2 := hml0
  have hown : s.vm.findClass "java/lang/StringUTF16" = some m.cls := findClass_of_methodNamed Bd.named
  have hnm := (name_of_methodNamed Bd.named Bd.method).1
  have X00 : Stand p l e ({ frames := 0, cells := 0, slots := 0, locals := 0 } : Room) s m #[(.ref q0), (.int 4)] below meth c s₁ [] 0 0 := Stand.of_body Bd
  have e00 : s₁.heap = h0 := by rw [← hh, Bd.state]; rfl
  have N00 := Fr.nil n0
  refine Classical.byContradiction fun hNG => ?_
  have K00 := Keep.refl h0 []
  have k00 : ∀ t, Ga p e below m s₁ 0 #[.val (.ref q0), .val (.int 4)] [] t → Ra p e below m s₁ #[(.ref q0), (.int 4)] 2 t := fun t k => castTop (Iw m q0 ((4 : Int32)) ) k
  obtain ⟨Ua, La, Va, Ma, Ha, Ia, Ka⟩ := (id hE : EV Z Ba Aa)
  obtain ⟨cl10, Ar10, q10, Sz10, Nn10, Hs10, Gf10⟩ := id P0
  have k11 : ∀ t, Ga p e below m s₁ 8 #[.val (.ref q0), .val (.int 4)] [(.int 1)] t → Ra p e below m s₁ #[(.ref q0), (.int 4)] 2 t := by
    intro t k
    refine k00 t ?_
    refine XS.iloadN X00.here hx rfl (hb hby Mh) rfl ?_
    refine XS.aloadN X00.here hx rfl (hb hby Ph) rfl rfl ?_
    refine X00.arraylength hx (by rw [e00]; exact Ar10.1) (State.isArrayOf_alike hZ.alike Ar10.2.1) (g := (mkF m 2 #[.val (.ref q0), .val (.int 4)] [(.ref q0), (.int 4)])) rfl rfl (hb hby Rh) _ ?_
    rw [len_of Sz10 Nn10]
    refine XS.isub X00.here hx rfl (hb hby Uh) rfl ?_
    show Ga p e below m s₁ 4 #[.val (.ref q0), .val (.int 4)] [(.int ((4 : Int32) - (8 : Int32)))] t
    rw [show ((4 : Int32) - (8 : Int32)) = (-4 : Int32) from by decide]
    refine XS.bipush X00.here hx rfl (hb hby Vh) ?_
    refine XS.iushr X00.here hx rfl (hb hby Wh) rfl ?_
    show Ga p e below m s₁ 7 #[.val (.ref q0), .val (.int 4)] [(.int (((-4 : Int32).toUInt32 >>> ((31 : Int32) &&& 31).toUInt32).toInt32))] t
    rw [show (((-4 : Int32).toUInt32 >>> ((31 : Int32) &&& 31).toUInt32).toInt32) = (1 : Int32) from by decide]
    show Ga p e below m s₁ 7 #[.val (.ref q0), .val (.int 4)] [(.int 1)] t
    refine XS.i2b X00.here hx rfl (hb hby Yh) rfl ?_
    show Ga p e below m s₁ 8 #[.val (.ref q0), .val (.int 4)] [(.int ((1 : Int32).toInt8.toInt32))] t
    rw [show ((1 : Int32).toInt8.toInt32) = (1 : Int32) from by decide]
    exact k
  obtain ⟨fs, hr, hrun, hended, hW, hsame⟩ := X00.leave (v := some (.int 1)) (fun h => by rw [Bd.returns] at h; cases h)
  refine hNG ⟨_, _, k11 _ ?_, hrun, hended, _, _, rfl, ?_, ⟨_, rfl⟩, hW, hsame.mono (by decide) (by decide)⟩
  · exact retN X00 hx (t := .byte) Bd.returns (by simp) (hb hby Zh) (by first | exact hr | (rw [show nar .byte (1 : Int32) = (1 : Int32) from by first | rfl | exact Wi _ | decide]; exact hr))
  · show As Z q0 k0 vs Ba Aa h0 n0 _ s₁.heap _
    rw [e00]
    exact ⟨rfl, N00, rfl⟩
theorem Bz (m : MethodId) (x0 : Addr) (x1 : Addr) (x2 : Int32) (x3 : Int32)  : entryFrame m #[(.ref x0), (.ref x1), (.int x2), (.int x3), .null] 6 = mkF m 0 #[.val (.ref x0), .val (.ref x1), .val (.int x2), .val (.int x3), .val .null, .unset] [] := by first | (simp [entryFrame, mkF, argsToLocals, Value.category]; done) | rfl
def Bq (Z : State) (a1 : Addr) (t0 : Addr) (k0 : ClassId) (c0 : Int32) (c1 : Int32) (c2 : Int32) (c3 : Int32) (Ba : Int32) (Aa : Value) (h0 : Heap) (n0 : Nat) (v : Option Value) (h : Heap) (L : List Loc) : Prop := ∃ (b : Addr) (z : Int32) (k : ClassId) (vs : List Value), v = none ∧ Fr n0 L ∧ Old Z n0 h ∧ Keep h0 h [a1] ∧ n0 ≤ b ∧ h0.size ≤ b ∧ Exa Z h a1 "java/lang/String" ∧ Fld Z h a1 "java/lang/String" "value" "[B" (.ref b) ∧ Arv Z h b k .byte z vs (.int 0) ∧ (¬ (z = (0 : Int32)))
set_option maxRecDepth 65536 in
set_option maxHeartbeats 40000000 in
theorem Dz (l : Launch) (Z : State) (a0 : Array Value) (hw : ∀ d ∈ tables_1, d.before a0 Z = true) (ws : List Jvm.Cond) (a1 : Addr) (t0 : Addr) (k0 : ClassId) (c0 : Int32) (c1 : Int32) (c2 : Int32) (c3 : Int32) (Ba : Int32) (Aa : Value) (h0 : Heap) (n0 : Nat) (O0 : Old Z n0 h0) (hE : EV Z Ba Aa) (P0 : Arv Z h0 t0 k0 .char (4 : Int32) [(.int c0), (.int c1), (.int c2), (.int c3)] (.int 0)) (P1 : Exa Z h0 a1 "java/lang/String") (P2 : Fld Z h0 a1 "java/lang/String" "value" "[B" .null) (P3 : Fld Z h0 a1 "java/lang/String" "coder" "B" (.int 0)) (g_a1 : n0 ≤ a1) (lo0 : ¬ c0 < 0) (hi0 : ¬ (65535 : Int32) < c0) (lo1 : ¬ c1 < 0) (hi1 : ¬ (65535 : Int32) < c1) (lo2 : ¬ c2 < 0) (hi2 : ¬ (65535 : Int32) < c2) (lo3 : ¬ c3 < 0) (hi3 : ¬ (65535 : Int32) < c3) :
    MetFree l Um (head1 (Jvm.Cond.code Um jdk_42_method_149_code 6 none :: ws) ({ frames := 4, cells := 2, slots := 12, locals := 57 } : Room)) (fun a U => a = #[(.ref a1), (.ref t0), (.int 0), (.int 4), .null] ∧ Z.Warmed39 U.vm ∧ U.heap = h0) (fun _ _ _ _ _ => True) (fun _ U o U' => ∃ v L, o = .returned v ∧ Bq Z a1 t0 k0 c0 c1 c2 c3 Ba Aa h0 n0 v U'.heap L ∧ FrameEnd U o U' L ({ frames := 4, cells := 2, slots := 12, locals := 57 } : Room).cells ({ frames := 4, cells := 2, slots := 12, locals := 57 } : Room).slots) := by
  refine MetFree.of_bodySF (plainFor_of_name Bi) hisR ?_
  intro p e s m args below meth c s₁ Bd hml0 hP hK
  obtain ⟨rfl, hZ, hh⟩ := hP
  have hx := Bd.exec
  have hby := Bd.bytes
  have hml : c.maxLocals = 6 := hml0
  have hown : s.vm.findClass "java/lang/String" = some m.cls := findClass_of_methodNamed Bd.named
  have hnm := (name_of_methodNamed Bd.named Bd.method).1
  have X00 : Stand p l e ({ frames := 4, cells := 2, slots := 12, locals := 57 } : Room) s m #[(.ref a1), (.ref t0), (.int 0), (.int 4), .null] below meth c s₁ [] 0 0 := Stand.of_body Bd
  have e00 : s₁.heap = h0 := by rw [← hh, Bd.state]; rfl
  have N00 := Fr.nil n0
  refine Classical.byContradiction fun hNG => ?_
  have K00 := Keep.refl h0 [a1]
  have k00 : ∀ t, Ga p e below m s₁ 0 #[.val (.ref a1), .val (.ref t0), .val (.int 0), .val (.int 4), .val .null, .unset] [] t → Ra p e below m s₁ #[(.ref a1), (.ref t0), (.int 0), (.int 4), .null] 6 t := fun t k => castTop (Bz m a1 t0 ((0 : Int32)) ((4 : Int32)) ) k
  obtain ⟨Ua, La, Va, Ma, Ha, Ia, Ka⟩ := (id hE : EV Z Ba Aa)
  obtain ⟨T10, X10, e10, st10⟩ := initO X00 hx hZ hown (Da hw 12 rfl) (Da hw 13 rfl) (Da hw 14 rfl) e00 (g := (mkF m 1 #[.val (.ref a1), .val (.ref t0), .val (.int 0), .val (.int 4), .val .null, .unset] [(.ref a1)])) rfl (by rw [hml]; rfl) rfl (hb hby Kj) (by decide) (W := 0) (by show 2 * 0 + _ ≤ _; exact Nat.le_of_eq rfl) (by decide)
  obtain ⟨T11, X11, e11, st11⟩ := getS2 X10 hx hZ hown (host := "") (Or.inl (Da hw 15 rfl)) Via.refl e10 (Ua.ext O0.2) (g := (mkF m 27 #[.val (.ref a1), .val (.ref t0), .val (.int 0), .val (.int 4), .val .null, .unset] [])) rfl (hb hby Li)
  obtain ⟨_, _, ⟨T12, L12, k12, n12⟩, -, X12, ⟨Lc12, hQ12, l12, y12, z12⟩, st12⟩ := Jvm.LawKit.callS X11 hx (y := Rm) hown (mvT hZ (Da hw 16 rfl)) (mvT hZ (Da hw 17 rfl)) (mvT hZ (Da hw 18 rfl)) (mvT hZ (Da hw 19 rfl)) (by decide) (backOf (W := 0) (Az l Z a0 hw [] t0 k0 c0 c1 c2 c3 _ _ h0 n0 O0 hE P0 lo0 hi0 lo1 hi1 lo2 hi2 lo3 hi3) hZ (Da hw 19 rfl) (Da hw 18 rfl) (by decide) (by decide)) (g := (mkF m 36 #[.val (.ref a1), .val (.ref t0), .val (.int 0), .val (.int 4), .val .null, .unset] [(.int 4), (.int 0), (.ref t0)])) rfl (by rw [hml]; rfl) (argsL := [(.ref t0), (.int 0), (.int 4)]) (rest := []) (lenOf Ii rfl) rfl (by show 2 * 0 + _ ≤ _; exact Nat.le_of_eq rfl) (hb hby Vi) (fun _ _ => ⟨rfl, e11, (by decide : 0 + 2 ≤ _), (by decide : 0 + 12 ≤ _)⟩)
  dsimp only [Pt.U, Pt.locs, Pt.cells, Pt.slots] at X12 l12 y12 z12 st12 hQ12
  subst l12 y12 z12
  obtain ⟨b12, z12, k12, vs12, rfl, N12q, O12, Kc12, g_b12, gs_b12, F12_0, D12_0⟩ := hQ12
  have N12 := Fr.app N00 N12q
  have K12 := K00.trans Kc12 (fun x hx => nomatch hx)
  have s_b12 := Nat.le_trans K00.1 gs_b12
  have lt_b12 := F12_0.lt
  have k13 : ∀ t, Ga p e below m T12 39 #[.val (.ref a1), .val (.ref t0), .val (.int 0), .val (.int 4), .val .null, .unset] [(.ref b12)] t → Ra p e below m s₁ #[(.ref a1), (.ref t0), (.int 0), (.int 4), .null] 6 t := by
    intro t k
    refine k00 t ?_
    refine XS.aloadN X00.here hx rfl (hb hby Ij) rfl rfl ?_
    refine st10 _ ?_
    refine XS.iloadN X10.here hx rfl (hb hby Lj) rfl ?_
    refine XS.ifYes X10.here hx rfl (pc0 := 5) (pc' := 27) rfl (hb hby Mj) rfl ((if0 _ _).trans (feq (by decide : ¬ ((4 : Int32) = (0 : Int32)))).2) (by decide) (by decide) ?_
    refine st11 _ ?_
    refine XS.ifNo X11.here hx rfl (hb hby Mi) rfl ((if0 _ _).trans (feq La).1) ?_
    refine XS.aloadN X11.here hx rfl (hb hby Pi) rfl rfl ?_
    refine XS.iloadN X11.here hx rfl (hb hby Ri) rfl ?_
    show Ga p e below m T11 35 #[.val (.ref a1), .val (.ref t0), .val (.int 0), .val (.int 4), .val .null, .unset] [(.int 0), (.ref t0)] t
    refine XS.iloadN X11.here hx rfl (hb hby Ui) rfl ?_
    refine st12 _ ?_
    exact k
  rcases D12_0 with hq | hq
  · subst hq
    obtain ⟨_, _, ⟨T14, L14, k14, n14⟩, -, X14, ⟨Lc14, hQ14, l14, y14, z14⟩, st14⟩ := Jvm.LawKit.callS X12 hx (y := Ki) hown (mvT hZ (Da hw 24 rfl)) (mvT hZ (Da hw 25 rfl)) (mvT hZ (Da hw 18 rfl)) (mvT hZ (Da hw 26 rfl)) (by decide) (backOf (W := 1) (Hw l Z a0 hw [] b12 k12 vs12 _ _ T12.heap n0 O12 hE F12_0 ) hZ (Da hw 26 rfl) (Da hw 18 rfl) (by decide) (by decide)) (g := (mkF m 45 #[.val (.ref a1), .val (.ref t0), .val (.int 0), .val (.int 4), .val .null, .val (.ref b12)] [(.int 4), (.ref b12), (.ref a1)])) rfl (by rw [hml]; rfl) (argsL := [(.ref b12), (.int 4)]) (rest := [(.ref a1)]) (lenOf Im rfl) rfl (by show 2 * 0 + _ ≤ _; exact Nat.le_of_eq rfl) (hb hby Dh) (fun _ _ => ⟨rfl, rfl, (by decide : 2 + 0 ≤ _), (by decide : 12 + 0 ≤ _)⟩)
    dsimp only [Pt.U, Pt.locs, Pt.cells, Pt.slots] at X14 l14 y14 z14 st14 hQ14
    subst l14 y14 z14
    obtain ⟨rfl, N14q, hp14⟩ := hQ14
    have N14 := Fr.app N12 N14q
    have f15 := (P1.keep Kc12)
    have f16 := (P3.keep Kc12 List.not_mem_nil)
    obtain ⟨T17, h17, X17, e17, W17, st17⟩ := putFN X14 hx hZ hown (Da hw 27 rfl) Via.refl hp14 f16 f15 (Or.inr ⟨(Da hw 28 rfl), rfl, hnm⟩) (Da hw 3 rfl) (ty := .byte) (v' := .int (0 : Int32)) (by decide) rfl (by decide) (g := (mkF m 48 #[.val (.ref a1), .val (.ref t0), .val (.int 0), .val (.int 4), .val .null, .val (.ref b12)] [(.int 0), (.ref a1)])) rfl rfl (hb hby Gh)
    have F17_coder := f16.same W17
    have N17 := Fr.snoc X17 N14 g_a1
    have O17 := O12.wr W17 g_a1
    have K17 := K12.wr W17 (Or.inl (List.mem_of_getElem? (i := 0) rfl))
    have f18 := (f15.wr W17)
    have f19 := ((P2.keep Kc12 List.not_mem_nil).other W17 (Or.inr (slot_ne (Or.inr (Da hw 30 rfl)) (Or.inr (Da hw 28 rfl)) (by decide) (t := (.array .byte)) (t' := .byte) (by decide) (by decide))))
    obtain ⟨T20, h20, X20, e20, W20, st20⟩ := putF X17 hx hZ hown (host := "") (Or.inl (Da hw 29 rfl)) Via.refl e17 f19 f18 (Or.inr ⟨(Da hw 30 rfl), rfl, hnm⟩) (Da hw 3 rfl) (ty := (.array .byte)) (by decide) rfl rfl (g := (mkF m 54 #[.val (.ref a1), .val (.ref t0), .val (.int 0), .val (.int 4), .val .null, .val (.ref b12)] [(.ref b12), (.ref a1)])) rfl rfl (hb hby Kh)
    have F20_value := f19.same W20
    have N20 := Fr.snoc X20 N17 g_a1
    have O20 := O17.wr W20 g_a1
    have K20 := K17.wr W20 (Or.inl (List.mem_of_getElem? (i := 0) rfl))
    have k21 : ∀ t, Ga p e below m T20 57 #[.val (.ref a1), .val (.ref t0), .val (.int 0), .val (.int 4), .val .null, .val (.ref b12)] [] t → Ra p e below m s₁ #[(.ref a1), (.ref t0), (.int 0), (.int 4), .null] 6 t := by
      intro t k
      refine k13 t ?_
      refine XS.astore X12.here hx rfl (hb hby Yg) rfl rfl (l' := #[.val (.ref a1), .val (.ref t0), .val (.int 0), .val (.int 4), .val .null, .val (.ref b12)]) rfl ?_
      refine XS.aloadN X12.here hx rfl (hb hby Zg) rfl rfl ?_
      refine XS.aload X12.here hx rfl (hb hby Ah) rfl rfl ?_
      refine XS.iloadN X12.here hx rfl (hb hby Bh) rfl ?_
      refine st14 _ ?_
      refine st17 _ ?_
      refine XS.aloadN X17.here hx rfl (hb hby Hh) rfl rfl ?_
      refine XS.aload X17.here hx rfl (hb hby Ih) rfl rfl ?_
      show Ga p e below m T17 54 #[.val (.ref a1), .val (.ref t0), .val (.int 0), .val (.int 4), .val .null, .val (.ref b12)] [(.ref b12), (.ref a1)] t
      refine st20 _ ?_
      exact k
    have f22 := (f18.wr W20)
    have ne23 : ¬ (b12 = a1) := (Ne.symm (Nat.ne_of_lt (Nat.lt_of_lt_of_le P1.lt gs_b12)))
    have f24 := ((F12_0.other W17 ne23).other W20 ne23)
    obtain ⟨fs, hr, hrun, hended, hW, hsame⟩ := X20.leave (v := none) (fun _ => rfl)
    refine hNG ⟨_, _, k21 _ ?_, hrun, hended, _, _, rfl, ?_, ⟨_, rfl⟩, hW, hsame.mono (by decide) (by decide)⟩
    · exact X20.returnOut hx Bd.returns (hb hby Lh) hr
    · show Bq Z a1 t0 k0 c0 c1 c2 c3 Ba Aa h0 n0 _ T20.heap _
      rw [e20]
      exact ⟨b12, (4 : Int32), _, _, rfl, N20, O20, K20, g_b12, s_b12, f22, F20_value, f24, (by decide)⟩
  · subst hq
    obtain ⟨_, _, ⟨T25, L25, k25, n25⟩, -, X25, ⟨Lc25, hQ25, l25, y25, z25⟩, st25⟩ := Jvm.LawKit.callS X12 hx (y := Ki) hown (mvT hZ (Da hw 24 rfl)) (mvT hZ (Da hw 25 rfl)) (mvT hZ (Da hw 18 rfl)) (mvT hZ (Da hw 26 rfl)) (by decide) (backOf (W := 1) (Kw l Z a0 hw [] b12 k12 vs12 _ _ T12.heap n0 O12 hE F12_0 ) hZ (Da hw 26 rfl) (Da hw 18 rfl) (by decide) (by decide)) (g := (mkF m 45 #[.val (.ref a1), .val (.ref t0), .val (.int 0), .val (.int 4), .val .null, .val (.ref b12)] [(.int 4), (.ref b12), (.ref a1)])) rfl (by rw [hml]; rfl) (argsL := [(.ref b12), (.int 4)]) (rest := [(.ref a1)]) (lenOf Im rfl) rfl (by show 2 * 0 + _ ≤ _; exact Nat.le_of_eq rfl) (hb hby Dh) (fun _ _ => ⟨rfl, rfl, (by decide : 2 + 0 ≤ _), (by decide : 12 + 0 ≤ _)⟩)
    dsimp only [Pt.U, Pt.locs, Pt.cells, Pt.slots] at X25 l25 y25 z25 st25 hQ25
    subst l25 y25 z25
    obtain ⟨rfl, N25q, hp25⟩ := hQ25
    have N25 := Fr.app N12 N25q
    have f26 := (P1.keep Kc12)
    have f27 := (P3.keep Kc12 List.not_mem_nil)
    obtain ⟨T28, h28, X28, e28, W28, st28⟩ := putFN X25 hx hZ hown (Da hw 27 rfl) Via.refl hp25 f27 f26 (Or.inr ⟨(Da hw 28 rfl), rfl, hnm⟩) (Da hw 3 rfl) (ty := .byte) (v' := .int (1 : Int32)) (by decide) rfl (by decide) (g := (mkF m 48 #[.val (.ref a1), .val (.ref t0), .val (.int 0), .val (.int 4), .val .null, .val (.ref b12)] [(.int 1), (.ref a1)])) rfl rfl (hb hby Gh)
    have F28_coder := f27.same W28
    have N28 := Fr.snoc X28 N25 g_a1
    have O28 := O12.wr W28 g_a1
    have K28 := K12.wr W28 (Or.inl (List.mem_of_getElem? (i := 0) rfl))
    have f29 := (f26.wr W28)
    have f30 := ((P2.keep Kc12 List.not_mem_nil).other W28 (Or.inr (slot_ne (Or.inr (Da hw 30 rfl)) (Or.inr (Da hw 28 rfl)) (by decide) (t := (.array .byte)) (t' := .byte) (by decide) (by decide))))
    obtain ⟨T31, h31, X31, e31, W31, st31⟩ := putF X28 hx hZ hown (host := "") (Or.inl (Da hw 29 rfl)) Via.refl e28 f30 f29 (Or.inr ⟨(Da hw 30 rfl), rfl, hnm⟩) (Da hw 3 rfl) (ty := (.array .byte)) (by decide) rfl rfl (g := (mkF m 54 #[.val (.ref a1), .val (.ref t0), .val (.int 0), .val (.int 4), .val .null, .val (.ref b12)] [(.ref b12), (.ref a1)])) rfl rfl (hb hby Kh)
    have F31_value := f30.same W31
    have N31 := Fr.snoc X31 N28 g_a1
    have O31 := O28.wr W31 g_a1
    have K31 := K28.wr W31 (Or.inl (List.mem_of_getElem? (i := 0) rfl))
    have k32 : ∀ t, Ga p e below m T31 57 #[.val (.ref a1), .val (.ref t0), .val (.int 0), .val (.int 4), .val .null, .val (.ref b12)] [] t → Ra p e below m s₁ #[(.ref a1), (.ref t0), (.int 0), (.int 4), .null] 6 t := by
      intro t k
      refine k13 t ?_
      refine XS.astore X12.here hx rfl (hb hby Yg) rfl rfl (l' := #[.val (.ref a1), .val (.ref t0), .val (.int 0), .val (.int 4), .val .null, .val (.ref b12)]) rfl ?_
      refine XS.aloadN X12.here hx rfl (hb hby Zg) rfl rfl ?_
      refine XS.aload X12.here hx rfl (hb hby Ah) rfl rfl ?_
      refine XS.iloadN X12.here hx rfl (hb hby Bh) rfl ?_
      refine st25 _ ?_
      refine st28 _ ?_
      refine XS.aloadN X28.here hx rfl (hb hby Hh) rfl rfl ?_
      refine XS.aload X28.here hx rfl (hb hby Ih) rfl rfl ?_
      show Ga p e below m T28 54 #[.val (.ref a1), .val (.ref t0), .val (.int 0), .val (.int 4), .val .null, .val (.ref b12)] [(.ref b12), (.ref a1)] t
      refine st31 _ ?_
      exact k
    have f33 := (f29.wr W31)
    have ne34 : ¬ (b12 = a1) := (Ne.symm (Nat.ne_of_lt (Nat.lt_of_lt_of_le P1.lt gs_b12)))
    have f35 := ((F12_0.other W28 ne34).other W31 ne34)
    obtain ⟨fs, hr, hrun, hended, hW, hsame⟩ := X31.leave (v := none) (fun _ => rfl)
    refine hNG ⟨_, _, k32 _ ?_, hrun, hended, _, _, rfl, ?_, ⟨_, rfl⟩, hW, hsame.mono (by decide) (by decide)⟩
    · exact X31.returnOut hx Bd.returns (hb hby Lh) hr
    · show Bq Z a1 t0 k0 c0 c1 c2 c3 Ba Aa h0 n0 _ T31.heap _
      rw [e31]
      exact ⟨b12, (8 : Int32), _, _, rfl, N31, O31, K31, g_b12, s_b12, f33, F31_value, f35, (by decide)⟩
theorem Gz (m : MethodId) (x0 : Addr) (x1 : Addr)  : entryFrame m #[(.ref x0), (.ref x1)] 2 = mkF m 0 #[.val (.ref x0), .val (.ref x1)] [] := by first | (simp [entryFrame, mkF, argsToLocals, Value.category]; done) | rfl
def Vs (Z : State) (a1 : Addr) (t0 : Addr) (k0 : ClassId) (c0 : Int32) (c1 : Int32) (c2 : Int32) (c3 : Int32) (Ba : Int32) (Aa : Value) (h0 : Heap) (n0 : Nat) (v : Option Value) (h : Heap) (L : List Loc) : Prop := ∃ (b : Addr) (z : Int32) (k : ClassId) (vs : List Value), v = none ∧ Fr n0 L ∧ Old Z n0 h ∧ Keep h0 h [a1] ∧ n0 ≤ b ∧ h0.size ≤ b ∧ Exa Z h a1 "java/lang/String" ∧ Fld Z h a1 "java/lang/String" "value" "[B" (.ref b) ∧ Arv Z h b k .byte z vs (.int 0) ∧ (¬ (z = (0 : Int32)))
set_option maxRecDepth 65536 in
set_option maxHeartbeats 40000000 in
theorem Hz (l : Launch) (Z : State) (a0 : Array Value) (hw : ∀ d ∈ tables_1, d.before a0 Z = true) (ws : List Jvm.Cond) (a1 : Addr) (t0 : Addr) (k0 : ClassId) (c0 : Int32) (c1 : Int32) (c2 : Int32) (c3 : Int32) (Ba : Int32) (Aa : Value) (h0 : Heap) (n0 : Nat) (O0 : Old Z n0 h0) (hE : EV Z Ba Aa) (P0 : Arv Z h0 t0 k0 .char (4 : Int32) [(.int c0), (.int c1), (.int c2), (.int c3)] (.int 0)) (P1 : Exa Z h0 a1 "java/lang/String") (P2 : Fld Z h0 a1 "java/lang/String" "value" "[B" .null) (P3 : Fld Z h0 a1 "java/lang/String" "coder" "B" (.int 0)) (g_a1 : n0 ≤ a1) (lo0 : ¬ c0 < 0) (hi0 : ¬ (65535 : Int32) < c0) (lo1 : ¬ c1 < 0) (hi1 : ¬ (65535 : Int32) < c1) (lo2 : ¬ c2 < 0) (hi2 : ¬ (65535 : Int32) < c2) (lo3 : ¬ c3 < 0) (hi3 : ¬ (65535 : Int32) < c3) :
    MetFree l Wm (head1 (Jvm.Cond.code Wm jdk_42_method_3_code 2 none :: ws) ({ frames := 5, cells := 2, slots := 12, locals := 74 } : Room)) (fun a U => a = #[(.ref a1), (.ref t0)] ∧ Z.Warmed39 U.vm ∧ U.heap = h0) (fun _ _ _ _ _ => True) (fun _ U o U' => ∃ v L, o = .returned v ∧ Vs Z a1 t0 k0 c0 c1 c2 c3 Ba Aa h0 n0 v U'.heap L ∧ FrameEnd U o U' L ({ frames := 5, cells := 2, slots := 12, locals := 74 } : Room).cells ({ frames := 5, cells := 2, slots := 12, locals := 74 } : Room).slots) := by
  refine MetFree.of_bodySF (plainFor_of_name Bi) hisR ?_
  intro p e s m args below meth c s₁ Bd hml0 hP hK
  obtain ⟨rfl, hZ, hh⟩ := hP
  have hx := Bd.exec
  have hby := Bd.bytes
  have hml : c.maxLocals = 2 := hml0
  have hown : s.vm.findClass "java/lang/String" = some m.cls := findClass_of_methodNamed Bd.named
  have hnm := (name_of_methodNamed Bd.named Bd.method).1
  have X00 : Stand p l e ({ frames := 5, cells := 2, slots := 12, locals := 74 } : Room) s m #[(.ref a1), (.ref t0)] below meth c s₁ [] 0 0 := Stand.of_body Bd
  have e00 : s₁.heap = h0 := by rw [← hh, Bd.state]; rfl
  have N00 := Fr.nil n0
  refine Classical.byContradiction fun hNG => ?_
  have K00 := Keep.refl h0 [a1]
  have k00 : ∀ t, Ga p e below m s₁ 0 #[.val (.ref a1), .val (.ref t0)] [] t → Ra p e below m s₁ #[(.ref a1), (.ref t0)] 2 t := fun t k => castTop (Gz m a1 t0 ) k
  obtain ⟨Ua, La, Va, Ma, Ha, Ia, Ka⟩ := (id hE : EV Z Ba Aa)
  obtain ⟨cl10, Ar10, q10, Sz10, Nn10, Hs10, Gf10⟩ := id P0
  obtain ⟨_, _, ⟨T11, L11, k11, n11⟩, -, X11, ⟨Lc11, hQ11, l11, y11, z11⟩, st11⟩ := X00.specialBack hx (y := Um) rfl hown (mvT hZ (Da hw 8 rfl)) (mvT hZ (Da hw 9 rfl)) (mvT hZ (Da hw 11 rfl)) (by decide) (backOf (W := 0) (Dz l Z a0 hw [] a1 t0 k0 c0 c1 c2 c3 _ _ h0 n0 O0 hE P0 P1 P2 P3 g_a1 lo0 hi0 lo1 hi1 lo2 hi2 lo3 hi3) hZ (Da hw 11 rfl) (Da hw 4 rfl) (by decide) (by decide)) (g := (mkF m 6 #[.val (.ref a1), .val (.ref t0)] [.null, (.int 4), (.int 0), (.ref t0), (.ref a1)])) rfl (by rw [hml]; rfl) (Steps.refl _) (a := a1) (argsL := [(.ref t0), (.int 0), (.int 4), .null]) (rest := []) (lenOf Pj rfl) rfl (by show 2 * 0 + _ ≤ _; exact Nat.le_of_eq rfl) (hb hby Wl) (fun _ _ => ⟨rfl, e00, (by decide : 0 + 2 ≤ _), (by decide : 0 + 12 ≤ _)⟩)
  dsimp only [Pt.U, Pt.locs, Pt.cells, Pt.slots] at X11 l11 y11 z11 st11 hQ11
  subst l11 y11 z11
  obtain ⟨b11, z11, k11, vs11, rfl, N11q, O11, Kc11, g_b11, gs_b11, F11_0, F11_1, F11_2, D11_0⟩ := hQ11
  have N11 := Fr.app N00 N11q
  have K11 := K00.trans Kc11 (allS (Or.inl (List.mem_of_getElem? (i := 0) rfl)) all0)
  have s_b11 := Nat.le_trans K00.1 gs_b11
  have lt_b11 := F11_2.lt
  have k12 : ∀ t, Ga p e below m T11 9 #[.val (.ref a1), .val (.ref t0)] [] t → Ra p e below m s₁ #[(.ref a1), (.ref t0)] 2 t := by
    intro t k
    refine k00 t ?_
    refine XS.aloadN X00.here hx rfl (hb hby Ll) rfl rfl ?_
    refine XS.aloadN X00.here hx rfl (hb hby Ml) rfl rfl ?_
    refine XS.iconst X00.here hx rfl (hb hby Pl) ?_
    refine XS.aloadN X00.here hx rfl (hb hby Rl) rfl rfl ?_
    refine X00.arraylength hx (by rw [e00]; exact Ar10.1) (State.isArrayOf_alike hZ.alike Ar10.2.1) (g := (mkF m 4 #[.val (.ref a1), .val (.ref t0)] [(.ref t0), (.int 0), (.ref t0), (.ref a1)])) rfl rfl (hb hby Ul) _ ?_
    rw [len_of Sz10 Nn10]
    refine XS.aconstNull X00.here hx rfl (hb hby Vl) ?_
    refine st11.trans ?_
    exact k
  obtain ⟨fs, hr, hrun, hended, hW, hsame⟩ := X11.leave (v := none) (fun _ => rfl)
  refine hNG ⟨_, _, k12 _ ?_, hrun, hended, _, _, rfl, ?_, ⟨_, rfl⟩, hW, hsame.mono (by decide) (by decide)⟩
  · exact X11.returnOut hx Bd.returns (hb hby Yl) hr
  · show Vs Z a1 t0 k0 c0 c1 c2 c3 Ba Aa h0 n0 _ T11.heap _
    exact ⟨b11, z11, _, _, rfl, N11, O11, K11, g_b11, s_b11, F11_0, F11_1, F11_2, D11_0⟩
theorem ef_ie (m : MethodId) (x0 : Addr)  : entryFrame m #[(.ref x0)] 1 = mkF m 0 #[.val (.ref x0)] [] := by first | (simp [entryFrame, mkF, argsToLocals, Value.category]; done) | rfl
theorem Rn : decode jdk_42_method_55_code 0 = .ok (.aload_n 0, 1) := by decide +kernel
theorem Un : decode jdk_42_method_55_code 1 = .ok (.getfield 9, 3) := by decide +kernel
theorem Vn : decode jdk_42_method_55_code 4 = .ok (.arraylength, 1) := by decide +kernel
theorem Wn : decode jdk_42_method_55_code 5 = .ok (.ifCond .ne 7, 3) := by decide +kernel
theorem Kn : decode jdk_42_method_55_code 12 = .ok (.iconst 0, 1) := by decide +kernel
theorem Ln : decode jdk_42_method_55_code 13 = .ok (.ireturn, 1) := by decide +kernel
abbrev Pp : MethodName := ⟨"java/lang/String", "isEmpty", "()Z"⟩
def Q_ie (Z : State) (q0 : Addr) (t0 : Addr) (z : Int32) (k : ClassId) (vs : List Value) (Ba : Int32) (Aa : Value) (h0 : Heap) (n0 : Nat) (v : Option Value) (h : Heap) (L : List Loc) : Prop := v = some (.int 0) ∧ Fr n0 L ∧ h = h0
set_option maxRecDepth 65536 in
set_option maxHeartbeats 40000000 in
theorem rm_ie (l : Launch) (Z : State) (a0 : Array Value) (hw : ∀ d ∈ tables_1, d.before a0 Z = true) (ws : List Jvm.Cond) (q0 : Addr) (t0 : Addr) (z : Int32) (k : ClassId) (vs : List Value) (Ba : Int32) (Aa : Value) (h0 : Heap) (n0 : Nat) (O0 : Old Z n0 h0) (hE : EV Z Ba Aa) (P0 : Fld Z h0 q0 "java/lang/String" "value" "[B" (.ref t0)) (P1 : Arv Z h0 t0 k .byte z vs (.int 0)) (hz : ¬ (z = (0 : Int32))) :
    MetFree l Pp (head1 (Jvm.Cond.code Pp jdk_42_method_55_code 1 (some .boolean) :: ws) ({ frames := 0, cells := 0, slots := 0, locals := 0 } : Room)) (fun a U => a = #[(.ref q0)] ∧ Z.Warmed39 U.vm ∧ U.heap = h0) (fun _ _ _ _ _ => True) (fun _ U o U' => ∃ v L, o = .returned v ∧ Q_ie Z q0 t0 z k vs Ba Aa h0 n0 v U'.heap L ∧ FrameEnd U o U' L ({ frames := 0, cells := 0, slots := 0, locals := 0 } : Room).cells ({ frames := 0, cells := 0, slots := 0, locals := 0 } : Room).slots) := by
  refine MetFree.of_bodySF (plainFor_of_name Bi) hisR ?_
  intro p e s m args below meth c s₁ Bd hml0 hP hK
  obtain ⟨rfl, hZ, hh⟩ := hP
  have hx := Bd.exec
  have hby := Bd.bytes
  have hml : c.maxLocals = 1 := hml0
  have hown : s.vm.findClass "java/lang/String" = some m.cls := findClass_of_methodNamed Bd.named
  have hnm := (name_of_methodNamed Bd.named Bd.method).1
  have X00 : Stand p l e ({ frames := 0, cells := 0, slots := 0, locals := 0 } : Room) s m #[(.ref q0)] below meth c s₁ [] 0 0 := Stand.of_body Bd
  have e00 : s₁.heap = h0 := by rw [← hh, Bd.state]; rfl
  have N00 := Fr.nil n0
  refine Classical.byContradiction fun hNG => ?_
  have K00 := Keep.refl h0 []
  have k00 : ∀ t, Ga p e below m s₁ 0 #[.val (.ref q0)] [] t → Ra p e below m s₁ #[(.ref q0)] 1 t := fun t k => castTop (ef_ie m q0 ) k
  obtain ⟨Ua, La, Va, Ma, Ha, Ia, Ka⟩ := (id hE : EV Z Ba Aa)
  obtain ⟨T10, X10, e10, st10⟩ := getF X00 hx hZ hown (host := "") (Or.inl (Da hw 29 rfl)) Via.refl e00 P0 (g := (mkF m 1 #[.val (.ref q0)] [(.ref q0)])) rfl rfl (hb hby Un)
  obtain ⟨cl11, Ar11, q11, Sz11, Nn11, Hs11, Gf11⟩ := id P1
  have k12 : ∀ t, Ga p e below m T10 13 #[.val (.ref q0)] [(.int 0)] t → Ra p e below m s₁ #[(.ref q0)] 1 t := by
    intro t k
    refine k00 t ?_
    refine XS.aloadN X00.here hx rfl (hb hby Rn) rfl rfl ?_
    refine st10 _ ?_
    refine X10.arraylength hx (by rw [e10]; exact Ar11.1) (State.isArrayOf_alike hZ.alike Ar11.2.1) (g := (mkF m 4 #[.val (.ref q0)] [(.ref t0)])) rfl rfl (hb hby Vn) _ ?_
    rw [len_of Sz11 Nn11]
    refine XS.ifYes X10.here hx rfl (pc0 := 5) (pc' := 12) rfl (hb hby Wn) rfl ((if0 _ _).trans (feq hz).2) (by decide) (by decide) ?_
    refine XS.iconst X10.here hx rfl (hb hby Kn) ?_
    exact k
  obtain ⟨fs, hr, hrun, hended, hW, hsame⟩ := X10.leave (v := some (.int 0)) (fun h => by rw [Bd.returns] at h; cases h)
  refine hNG ⟨_, _, k12 _ ?_, hrun, hended, _, _, rfl, ?_, ⟨_, rfl⟩, hW, hsame.mono (by decide) (by decide)⟩
  · exact retN X10 hx (t := .boolean) Bd.returns (by simp) (hb hby Ln) hr
  · show Q_ie Z q0 t0 z k vs Ba Aa h0 n0 _ T10.heap _
    rw [e10]
    exact ⟨rfl, N00, rfl⟩
theorem ef_ck (m : MethodId) (x0 : Addr)  : entryFrame m #[(.ref x0)] 1 = mkF m 0 #[.val (.ref x0)] [] := by first | (simp [entryFrame, mkF, argsToLocals, Value.category]; done) | rfl
theorem Lo : decode prog_1_method_2_code 0 = .ok (.aload_n 0, 1) := by decide +kernel
theorem Lz {Z : State} {a0 : Array Value} (hw : ∀ d ∈ tables_1, d.before a0 Z = true) : ∀ d ∈ Bundle.stringAtoms, d.before a0 Z = true := fun d hd => hw d ((by decide +kernel : ∀ d ∈ Bundle.stringAtoms, d ∈ tables_1) d hd)
theorem Mo : decode prog_1_method_2_code 1 = .ok (.ldc 7, 2) := by decide +kernel
theorem Po : decode prog_1_method_2_code 3 = .ok (.invokestatic 9, 3) := by decide +kernel
theorem ef_f5 (m : MethodId) (x0 : Addr) (x1 : Addr)  : entryFrame m #[(.ref x0), (.ref x1)] 2 = mkF m 0 #[.val (.ref x0), .val (.ref x1)] [] := by first | (simp [entryFrame, mkF, argsToLocals, Value.category]; done) | rfl
theorem Yn : decode jdk_31_method_11_code 0 = .ok (.aload_n 0, 1) := by decide +kernel
theorem Zn : decode jdk_31_method_11_code 1 = .ok (.ifnonnull 12, 3) := by decide +kernel
theorem Mn : decode jdk_31_method_11_code 13 = .ok (.aload_n 0, 1) := by decide +kernel
theorem Pn : decode jdk_31_method_11_code 14 = .ok (.areturn, 1) := by decide +kernel
theorem Bp : plainName "java/util/Objects" = true := by first | (simp [plainName, overriddenIn]; done) | decide +kernel
abbrev Dq : MethodName := ⟨"java/util/Objects", "requireNonNull", "(Ljava/lang/Object;Ljava/lang/String;)Ljava/lang/Object;"⟩
def Q_f5 (Z : State) (q0 : Addr) (q1 : Addr) (Ba : Int32) (Aa : Value) (h0 : Heap) (n0 : Nat) (v : Option Value) (h : Heap) (L : List Loc) : Prop := v = some (.ref q0) ∧ Fr n0 L ∧ h = h0
set_option maxRecDepth 65536 in
set_option maxHeartbeats 40000000 in
theorem rm_f5 (l : Launch) (Z : State) (a0 : Array Value) (hw : ∀ d ∈ tables_1, d.before a0 Z = true) (ws : List Jvm.Cond) (q0 : Addr) (q1 : Addr) (Ba : Int32) (Aa : Value) (h0 : Heap) (n0 : Nat) (O0 : Old Z n0 h0) (hE : EV Z Ba Aa) :
    MetFree l Dq (head1 (Jvm.Cond.code Dq jdk_31_method_11_code 2 (some (.object "java/lang/Object")) :: ws) ({ frames := 0, cells := 0, slots := 0, locals := 0 } : Room)) (fun a U => a = #[(.ref q0), (.ref q1)] ∧ Z.Warmed39 U.vm ∧ U.heap = h0) (fun _ _ _ _ _ => True) (fun _ U o U' => ∃ v L, o = .returned v ∧ Q_f5 Z q0 q1 Ba Aa h0 n0 v U'.heap L ∧ FrameEnd U o U' L ({ frames := 0, cells := 0, slots := 0, locals := 0 } : Room).cells ({ frames := 0, cells := 0, slots := 0, locals := 0 } : Room).slots) := by
  refine MetFree.of_bodySF (plainFor_of_name Bp) hisR ?_
  intro p e s m args below meth c s₁ Bd hml0 hP hK
  obtain ⟨rfl, hZ, hh⟩ := hP
  have hx := Bd.exec
  have hby := Bd.bytes
  have hml : c.maxLocals = 2 := hml0
  have hown : s.vm.findClass "java/util/Objects" = some m.cls := findClass_of_methodNamed Bd.named
  have hnm := (name_of_methodNamed Bd.named Bd.method).1
  have X00 : Stand p l e ({ frames := 0, cells := 0, slots := 0, locals := 0 } : Room) s m #[(.ref q0), (.ref q1)] below meth c s₁ [] 0 0 := Stand.of_body Bd
  have e00 : s₁.heap = h0 := by rw [← hh, Bd.state]; rfl
  have N00 := Fr.nil n0
  refine Classical.byContradiction fun hNG => ?_
  have K00 := Keep.refl h0 []
  have k00 : ∀ t, Ga p e below m s₁ 0 #[.val (.ref q0), .val (.ref q1)] [] t → Ra p e below m s₁ #[(.ref q0), (.ref q1)] 2 t := fun t k => castTop (ef_f5 m q0 q1 ) k
  obtain ⟨Ua, La, Va, Ma, Ha, Ia, Ka⟩ := (id hE : EV Z Ba Aa)
  have k10 : ∀ t, Ga p e below m s₁ 14 #[.val (.ref q0), .val (.ref q1)] [(.ref q0)] t → Ra p e below m s₁ #[(.ref q0), (.ref q1)] 2 t := by
    intro t k
    refine k00 t ?_
    refine XS.aloadN X00.here hx rfl (hb hby Yn) rfl rfl ?_
    refine XS.ifnonnullYes X00.here hx rfl (pc0 := 1) (pc' := 13) rfl (hb hby Zn) rfl (by decide) (by decide) ?_
    refine XS.aloadN X00.here hx rfl (hb hby Mn) rfl rfl ?_
    exact k
  obtain ⟨fs, hr, hrun, hended, hW, hsame⟩ := X00.leave (v := some (.ref q0)) (fun h => by rw [Bd.returns] at h; cases h)
  refine hNG ⟨_, _, k10 _ ?_, hrun, hended, _, _, rfl, ?_, ⟨_, rfl⟩, hW, hsame.mono (by decide) (by decide)⟩
  · exact retOut X00 hx (t := (.object "java/lang/Object")) Bd.returns rfl (Or.inr (Or.inr (Or.inr (Or.inr ⟨rfl, rfl, rfl⟩)))) (hb hby Pn) hr
  · show Q_f5 Z q0 q1 Ba Aa h0 n0 _ s₁.heap _
    rw [e00]
    exact ⟨rfl, N00, rfl⟩
theorem Zl : parseMethodDescriptor "(Ljava/lang/Object;Ljava/lang/String;)Ljava/lang/Object;" = some ⟨[(.object "java/lang/Object"), (.object "java/lang/String")], some (.object "java/lang/Object")⟩ := by decide +kernel
theorem Ro : decode prog_1_method_2_code 6 = .ok (.pop, 1) := by decide +kernel
theorem Uo : decode prog_1_method_2_code 7 = .ok (.aload_n 0, 1) := by decide +kernel
theorem Vo : decode prog_1_method_2_code 8 = .ok (.invokevirtual 15, 3) := by decide +kernel
theorem pd___Z : parseMethodDescriptor "()Z" = some ⟨[], some .boolean⟩ := by decide +kernel
theorem Ao : decode prog_1_method_2_code 11 = .ok (.ifCond .eq 13, 3) := by decide +kernel
theorem Bo : decode prog_1_method_2_code 24 = .ok (.aload_n 0, 1) := by decide +kernel
theorem Go : decode prog_1_method_2_code 25 = .ok (.areturn, 1) := by decide +kernel
theorem Km : plainName "com/example/plus1/plus1/LockArguments" = true := by first | (simp [plainName, overriddenIn]; done) | decide +kernel
abbrev Ko : MethodName := ⟨"com/example/plus1/plus1/LockArguments", "checkName", "(Ljava/lang/String;)Ljava/lang/String;"⟩
def Q_ck (Z : State) (q0 : Addr) (t0 : Addr) (z : Int32) (k : ClassId) (vs : List Value) (Ba : Int32) (Aa : Value) (h0 : Heap) (n0 : Nat) (v : Option Value) (h : Heap) (L : List Loc) : Prop := v = some (.ref q0) ∧ Fr n0 L ∧ Old Z n0 h ∧ Keep h0 h []
set_option maxRecDepth 65536 in
set_option maxHeartbeats 40000000 in
theorem Gq (l : Launch) (Z : State) (a0 : Array Value) (hw : ∀ d ∈ tables_1, d.before a0 Z = true) (ws : List Jvm.Cond) (q0 : Addr) (t0 : Addr) (z : Int32) (k : ClassId) (vs : List Value) (Ba : Int32) (Aa : Value) (h0 : Heap) (n0 : Nat) (O0 : Old Z n0 h0) (hE : EV Z Ba Aa) (P0 : Exa Z h0 q0 "java/lang/String") (P1 : Fld Z h0 q0 "java/lang/String" "value" "[B" (.ref t0)) (P2 : Arv Z h0 t0 k .byte z vs (.int 0)) (hz : ¬ (z = (0 : Int32))) :
    MetFree l Ko (head1 (Jvm.Cond.code Ko prog_1_method_2_code 1 (some (.object "java/lang/String")) :: ws) ({ frames := 1, cells := 2, slots := 20, locals := 13 } : Room)) (fun a U => a = #[(.ref q0)] ∧ Z.Warmed39 U.vm ∧ U.heap = h0) (fun _ _ _ _ _ => True) (fun _ U o U' => ∃ v L, o = .returned v ∧ Q_ck Z q0 t0 z k vs Ba Aa h0 n0 v U'.heap L ∧ ReturnedEndW U o U' L ({ frames := 1, cells := 2, slots := 20, locals := 13 } : Room).cells ({ frames := 1, cells := 2, slots := 20, locals := 13 } : Room).slots) := by
  refine MetFree.of_bodySF (plainFor_of_name Km) hisR ?_
  intro p e s m args below meth c s₁ Bd hml0 hP hK
  obtain ⟨rfl, hZ, hh⟩ := hP
  have hx := Bd.exec
  have hby := Bd.bytes
  have hml : c.maxLocals = 1 := hml0
  have hown : s.vm.findClass "com/example/plus1/plus1/LockArguments" = some m.cls := findClass_of_methodNamed Bd.named
  have hnm := (name_of_methodNamed Bd.named Bd.method).1
  have X00 : Stand p l e ({ frames := 1, cells := 2, slots := 20, locals := 13 } : Room) s m #[(.ref q0)] below meth c s₁ [] 0 0 := Stand.of_body Bd
  have e00 : s₁.heap = h0 := by rw [← hh, Bd.state]; rfl
  have N00 := Fr.nil n0
  refine Classical.byContradiction fun hNG => ?_
  have K00 := Keep.refl h0 []
  have k00 : ∀ t, Ga p e below m s₁ 0 #[.val (.ref q0)] [] t → Ra p e below m s₁ #[(.ref q0)] 1 t := fun t k => castTop (ef_ck m q0 ) k
  have hS : s.Since s.vm 0 := (State.WarmedH.refl s).since 0
  have X00 : Stand p l e ({ frames := 1, cells := 2, slots := 20, locals := 13 } : Room) (s.setVm s.vm) m #[(.ref q0)] below meth c s₁ [] 0 0 := X00
  have hZ : Z.Warmed39 (s.setVm s.vm).vm := hZ
  have hown : (s.setVm s.vm).vm.findClass "com/example/plus1/plus1/LockArguments" = some m.cls := hown
  obtain ⟨Ua, La, Va, Ma, Ha, Ia, Ka⟩ := (id hE : EV Z Ba Aa)
  obtain ⟨a10, T10, h10, q10, X10, e10, E10, hS, hk10, hZ, hown, st10⟩ := ldcS X00 hx hZ hown (Da hw 35 rfl) (Lz hw) e00 hS (Nat.zero_le _) (g := (mkF m 1 #[.val (.ref q0)] [(.ref q0)])) rfl (hb hby Mo) (n := 16) (by decide) (by decide) (by decide) (by decide)
  have O10 := O0.ext E10
  have K10 := K00.ext E10
  obtain ⟨_, _, ⟨T11, L11, k11, n11⟩, -, X11, ⟨Lc11, hQ11, l11, y11, z11⟩, st11⟩ := Jvm.LawKit.callS X10 hx (y := Dq) hown (mvT hZ (Da hw 38 rfl)) (mvT hZ (Da hw 39 rfl)) (mvT hZ (Da hw 40 rfl)) (mvT hZ (Da hw 41 rfl)) (by decide) (backOf (W := 0) (rm_f5 l Z a0 hw [] q0 a10 _ _ h10 n0 O10 hE) hZ (Da hw 41 rfl) (Da hw 40 rfl) (by decide) (by decide)) (g := (mkF m 3 #[.val (.ref q0)] [(.ref a10), (.ref q0)])) rfl (by rw [hml]; rfl) (argsL := [(.ref q0), (.ref a10)]) (rest := []) (lenOf Zl rfl) rfl (by show 2 * 0 + _ ≤ _; exact Nat.le_of_eq rfl) (hb hby Po) (fun _ _ => ⟨rfl, e10, (by decide : 2 + 0 ≤ _), (by decide : 20 + 0 ≤ _)⟩)
  dsimp only [Pt.U, Pt.locs, Pt.cells, Pt.slots] at X11 l11 y11 z11 st11 hQ11
  subst l11 y11 z11
  obtain ⟨rfl, N11q, hp11⟩ := hQ11
  have N11 := Fr.app N00 N11q
  have f12 := (P0.ext E10)
  have f13 := (P1.ext E10)
  have f14 := (P2.ext E10)
  obtain ⟨cq15, kq15, q15a, q15b, q15c⟩ := isOf hZ hp11 f12
  obtain ⟨_, _, ⟨T15, L15, k15, n15⟩, -, X15, ⟨Lc15, hQ15, l15, y15, z15⟩, st15⟩ := X11.virtualBack hx (y := Pp) (z := Pp) hown (mvT hZ (Da hw 42 rfl)) (mvT hZ (Da hw 43 rfl)) (notFace_of_selects (args := #[]) (mvT hZ (Da hw 45 rfl))) (mvT hZ (Da hw 45 rfl)) (mvT hZ (Da hw 44 rfl)) (by decide) (backOf (W := 0) (rm_ie l Z a0 hw [] q0 t0 z k vs _ _ h10 n0 O10 hE f13 f14 hz) hZ (Da hw 46 rfl) (Da hw 4 rfl) (by decide) (by decide)) q15a q15c (g := (mkF m 8 #[.val (.ref q0)] [(.ref q0)])) rfl (by rw [hml]; rfl) (Steps.refl _) (argsL := []) (rest := []) (lenOf pd___Z rfl) rfl (by show 2 * 0 + _ ≤ _; exact Nat.le_of_eq rfl) (hb hby Vo) (fun _ _ => ⟨rfl, hp11, (by decide : 2 + 0 ≤ _), (by decide : 20 + 0 ≤ _)⟩)
  dsimp only [Pt.U, Pt.locs, Pt.cells, Pt.slots] at X15 l15 y15 z15 st15 hQ15
  subst l15 y15 z15
  obtain ⟨rfl, N15q, hp15⟩ := hQ15
  have N15 := Fr.app N11 N15q
  have k16 : ∀ t, Ga p e below m T15 25 #[.val (.ref q0)] [(.ref q0)] t → Ra p e below m s₁ #[(.ref q0)] 1 t := by
    intro t k
    refine k00 t ?_
    refine XS.aloadN X00.here hx rfl (hb hby Lo) rfl rfl ?_
    refine st10 _ ?_
    refine st11 _ ?_
    refine XS.pop X11.here hx rfl (hb hby Ro) rfl rfl ?_
    refine XS.aloadN X11.here hx rfl (hb hby Uo) rfl rfl ?_
    refine st15.trans ?_
    refine XS.ifYes X15.here hx rfl (pc0 := 11) (pc' := 24) rfl (hb hby Ao) rfl ((if0 _ _).trans (teq (by decide : (0 : Int32) = (0 : Int32))).1) (by decide) (by decide) ?_
    refine XS.aloadN X15.here hx rfl (hb hby Bo) rfl rfl ?_
    show Ga p e below m T15 25 #[.val (.ref q0)] [(.ref q0)] t
    exact k
  obtain ⟨fs, hr, hrun, hended, hRW⟩ := X15.leaveW hS (by rw [hp15]; exact hk10) (v := some (.ref q0)) (fun h => by rw [Bd.returns] at h; cases h)
  refine hNG ⟨_, _, k16 _ ?_, hrun, hended, _, _, rfl, ?_, hRW.1, hRW.2.1, hRW.2.2.1, hRW.2.2.2.mono (by decide) (by decide)⟩
  · exact retOut X15 hx (t := (.object "java/lang/String")) Bd.returns rfl (Or.inr (Or.inr (Or.inr (Or.inr ⟨rfl, rfl, rfl⟩)))) (hb hby Go) hr
  · show Q_ck Z q0 t0 z k vs Ba Aa h0 n0 _ T15.heap _
    rw [hp15]
    exact ⟨rfl, N15, O10, K10⟩
theorem Iz (p : Int32) : (p &&& (3 : Int32)) = (0 : Int32) ∨ (p &&& (3 : Int32)) = (1 : Int32) ∨ (p &&& (3 : Int32)) = (2 : Int32) ∨ (p &&& (3 : Int32)) = (3 : Int32) := by
  have e := c_mask p (3 : Int32) 2 (by decide) (by decide)
  have e0 : (0 : Int32).toInt = 0 := by decide
  have e1 : (1 : Int32).toInt = 1 := by decide
  have e2 : (2 : Int32).toInt = 2 := by decide
  have e3 : (3 : Int32).toInt = 3 := by decide
  simp only [← Int32.toInt_inj, e, e0, e1, e2, e3]
  omega
theorem Ym (x : Int32) : nar .char (x.toUInt32.toUInt16.toUInt32.toInt32) = x.toUInt32.toUInt16.toUInt32.toInt32 := by
  show (x.toUInt32.toUInt16.toUInt32.toInt32).toUInt32.toUInt16.toUInt32.toInt32 = _
  have a := c_i2c x
  have b := c_i2c (x.toUInt32.toUInt16.toUInt32.toInt32)
  apply Int32.toInt_inj.mp
  omega
theorem Zm (x : Int32) : ¬ x.toUInt32.toUInt16.toUInt32.toInt32 < 0 := by
  have a := c_i2c x
  rw [Int32.lt_iff_toInt_lt, (by decide : (0 : Int32).toInt = 0)]; omega
theorem Bn (x : Int32) : ¬ (65535 : Int32) < x.toUInt32.toUInt16.toUInt32.toInt32 := by
  have a := c_i2c x
  rw [Int32.lt_iff_toInt_lt, (by decide : (65535 : Int32).toInt = 65535)]; omega
theorem ef_law (m : MethodId) (x0 : Int32) (x1 : Int32) (x2 : Int32) (x3 : Int32) (x4 : Int32)  : entryFrame m #[(.int x0), (.int x1), (.int x2), (.int x3), (.int x4)] maxLocals = mkF m 0 #[.val (.int x0), .val (.int x1), .val (.int x2), .val (.int x3), .val (.int x4), .unset, .unset, .unset, .unset] [] := by first | (simp [entryFrame, mkF, argsToLocals, Value.category, maxLocals]; done) | rfl
theorem Dp : parseMethodDescriptor "([C)V" = some ⟨[(.array .char)], none⟩ := by decide +kernel
theorem Ai : parseMethodDescriptor "(Ljava/lang/String;)Ljava/lang/String;" = some ⟨[(.object "java/lang/String")], some (.object "java/lang/String")⟩ := by decide +kernel
theorem Dm : plainName "com/example/plus1/plus1/LockArgumentsCheckNamePinLaw" = true := by first | (simp [plainName, overriddenIn]; done) | decide +kernel
def Up (Z : State) (p0 : Int32) (p1 : Int32) (p2 : Int32) (p3 : Int32) (p4 : Int32) (Ba : Int32) (Aa : Value) (h0 : Heap) (n0 : Nat) (v : Option Value) (h : Heap) (L : List Loc) : Prop := v = some (.int 1) ∧ Fr n0 L
set_option maxRecDepth 65536 in
set_option maxHeartbeats 40000000 in
theorem rm_law (l : Launch) (Z : State) (a0 : Array Value) (hw : ∀ d ∈ tables_1, d.before a0 Z = true) (ws : List Jvm.Cond) (p0 : Int32) (p1 : Int32) (p2 : Int32) (p3 : Int32) (p4 : Int32) (Ba : Int32) (Aa : Value) (h0 : Heap) (n0 : Nat) (O0 : Old Z n0 h0) (hE : EV Z Ba Aa) :
    MetFree l x (head1 (Jvm.Cond.code x code maxLocals ret :: ws) room_1) (fun a U => a = #[(.int p0), (.int p1), (.int p2), (.int p3), (.int p4)] ∧ Z.Warmed39 U.vm ∧ U.heap = h0) (fun _ _ _ _ _ => True) (fun _ U o U' => ∃ v L, o = .returned v ∧ Up Z p0 p1 p2 p3 p4 Ba Aa h0 n0 v U'.heap L ∧ ReturnedEndW U o U' L 6 40) := by
  refine MetFree.of_bodySF (plainFor_of_name Dm) hisR ?_
  intro p e s m args below meth c s₁ Bd hml0 hP hK
  obtain ⟨rfl, hZ, hh⟩ := hP
  have hx := Bd.exec
  have hby := Bd.bytes
  have hml : c.maxLocals = 9 := hml0
  have hown : s.vm.findClass "com/example/plus1/plus1/LockArgumentsCheckNamePinLaw" = some m.cls := findClass_of_methodNamed Bd.named
  have hnm := (name_of_methodNamed Bd.named Bd.method).1
  have X00 : Stand p l e room_1 s m #[(.int p0), (.int p1), (.int p2), (.int p3), (.int p4)] below meth c s₁ [] 0 0 := Stand.of_body Bd
  have e00 : s₁.heap = h0 := by rw [← hh, Bd.state]; rfl
  have N00 := Fr.nil n0
  refine Classical.byContradiction fun hNG => ?_
  have K00 := Keep.refl h0 []
  have k00 : ∀ t, Ga p e below m s₁ 0 #[.val (.int p0), .val (.int p1), .val (.int p2), .val (.int p3), .val (.int p4), .unset, .unset, .unset, .unset] [] t → Ra p e below m s₁ #[(.int p0), (.int p1), (.int p2), (.int p3), (.int p4)] maxLocals t := fun t k => castTop (ef_law m p0 p1 p2 p3 p4 ) k
  have hS : s.Since s.vm 0 := (State.WarmedH.refl s).since 0
  have X00 : Stand p l e room_1 (s.setVm s.vm) m #[(.int p0), (.int p1), (.int p2), (.int p3), (.int p4)] below meth c s₁ [] 0 0 := X00
  have hZ : Z.Warmed39 (s.setVm s.vm).vm := hZ
  have hown : (s.setVm s.vm).vm.findClass "com/example/plus1/plus1/LockArgumentsCheckNamePinLaw" = some m.cls := hown
  obtain ⟨Ua, La, Va, Ma, Ha, Ia, Ka⟩ := (id hE : EV Z Ba Aa)
  have k10 : ∀ t, Ga p e below m s₁ 5 #[.val (.int p0), .val (.int p1), .val (.int p2), .val (.int p3), .val (.int p4), .unset, .unset, .unset, .unset] [(.int (p4 &&& (3 : Int32))), (.int 1)] t → Ra p e below m s₁ #[(.int p0), (.int p1), (.int p2), (.int p3), (.int p4)] maxLocals t := by
    intro t k
    refine k00 t ?_
    refine XS.iconst X00.here hx rfl (hb hby at_0) ?_
    refine XS.iload X00.here hx rfl (hb hby at_1) rfl ?_
    refine XS.iconst X00.here hx rfl (hb hby at_3) ?_
    refine XS.iand X00.here hx rfl (hb hby at_4) rfl ?_
    exact k
  rcases Iz p4 with hs11 | hs11 | hs11 | hs11
  · have k12 : ∀ t, Ga p e below m s₁ 5 #[.val (.int p0), .val (.int p1), .val (.int p2), .val (.int p3), .val (.int p4), .unset, .unset, .unset, .unset] [(.int 0), (.int 1)] t → Ra p e below m s₁ #[(.int p0), (.int p1), (.int p2), (.int p3), (.int p4)] maxLocals t := by
      intro t k
      refine k10 t ?_
      rw [hs11]
      exact k
    obtain ⟨T13, h13, c13, X13, e13, E13, A13, st13⟩ := newP X00 hx hZ (Da hw 0 rfl) e00 (g := (mkF m 10 #[.val (.int p0), .val (.int p1), .val (.int p2), .val (.int p3), .val (.int p4), .val (.int 1), .unset, .unset, .unset] [(.int 1)])) rfl (hb hby at_10) rfl (by decide) (cap := 1) (by decide) (by decide) (by decide) (by decide)
    obtain ⟨b13, g13⟩ : ∃ z, z = h0.size := ⟨_, rfl⟩
    rw [← g13] at A13 st13
    have O13 := O0.ext E13
    have g_b13 : n0 ≤ b13 := Nat.le_trans (Nat.le_of_eq O0.1.symm) (Nat.le_trans O0.2.1 (Nat.le_of_eq g13.symm))
    have s_b13 : h0.size ≤ b13 := Nat.le_trans K00.1 (Nat.le_of_eq g13.symm)
    have K13 := K00.ext E13
    have V13 : Arv Z h13 b13 c13 .char (1 : Int32) [(.int 0)] (.int 0) := (Arv.new A13 (by decide)).pad (pad_rep [] (.int 0) 1)
    have lt_b13 := V13.lt
    obtain ⟨cl14, Ar14, q14, Sz14, Nn14, Hs14, Gf14⟩ := id V13
    have hin15 : ¬ ((0 : Int32) < 0 ∨ cl14.slots.size ≤ ((0 : Int32)).toNatClampNeg) := inb_of Sz14 ⟨by decide, by decide⟩
    obtain ⟨T16, h16, X16, e16, W16, st16⟩ := stC X13 hx hZ e13 Ar14 (j := (0 : Int32)) hin15 (g := (mkF m 22 #[.val (.int p0), .val (.int p1), .val (.int p2), .val (.int p3), .val (.int p4), .val (.int 1), .val (.ref b13), .unset, .unset] [(.int ((p0 &&& (65535 : Int32)).toUInt32.toUInt16.toUInt32.toInt32)), (.int 0), (.ref b13)])) rfl rfl (hb hby at_22)
    have V16 : Arv Z h16 b13 c13 .char (1 : Int32) [(.int ((p0 &&& (65535 : Int32)).toUInt32.toUInt16.toUInt32.toInt32))] (.int 0) := by
      have q := Arv.set Ar14 q14 Sz14 Nn14 Hs14 Gf14 (fits_nar_char _) W16 0 rfl (Nat.le_of_ble_eq_true rfl)
      first | exact q | (simp only [Ym] at q; exact q)
    have N16 := Fr.snoc X16 N00 g_b13
    have O16 := O13.wr W16 g_b13
    have K16 := K13.wr W16 (Or.inr s_b13)
    obtain ⟨T17, h17, X17, e17, E17, A17, D17, -, st17⟩ := newO X16 hx hZ hown (Da hw 2 rfl) (Da hw 3 rfl) (Da hw 4 rfl) e16 (g := (mkF m 68 #[.val (.int p0), .val (.int p1), .val (.int p2), .val (.int p3), .val (.int p4), .val (.int 1), .val (.ref b13), .unset, .unset] [])) rfl (hb hby at_68) (by decide) (by decide)
    obtain ⟨b17, g17⟩ : ∃ z, z = h16.size := ⟨_, rfl⟩
    rw [← g17] at A17 D17 st17
    have O17 := O16.ext E17
    have g_b17 : n0 ≤ b17 := Nat.le_trans (Nat.le_of_eq O16.1.symm) (Nat.le_trans O16.2.1 (Nat.le_of_eq g17.symm))
    have s_b17 : h0.size ≤ b17 := Nat.le_trans K16.1 (Nat.le_of_eq g17.symm)
    have K17 := K16.ext E17
    have lt_b17 := A17.lt
    have F17_coder : Fld Z h17 b17 "java/lang/String" "coder" "B" (.int 0) := D17 (Or.inr (Da hw 28 rfl)) (ty := .byte) (by decide)
    have F17_value : Fld Z h17 b17 "java/lang/String" "value" "[B" .null := D17 (Or.inr (Da hw 30 rfl)) (ty := (.array .byte)) (by decide)
    have k18 : ∀ t, Ga p e below m T17 74 #[.val (.int p0), .val (.int p1), .val (.int p2), .val (.int p3), .val (.int p4), .val (.int 1), .val (.ref b13), .unset, .unset] [(.ref b13), (.ref b17), (.ref b17)] t → Ra p e below m s₁ #[(.int p0), (.int p1), (.int p2), (.int p3), (.int p4)] maxLocals t := by
      intro t k
      refine k12 t ?_
      refine XS.iadd X00.here hx rfl (hb hby at_5) rfl ?_
      show Ga p e below m s₁ 6 #[.val (.int p0), .val (.int p1), .val (.int p2), .val (.int p3), .val (.int p4), .unset, .unset, .unset, .unset] [(.int ((1 : Int32) + (0 : Int32)))] t
      rw [show ((1 : Int32) + (0 : Int32)) = (1 : Int32) from by decide]
      refine XS.istore X00.here hx rfl (hb hby at_6) rfl (l' := #[.val (.int p0), .val (.int p1), .val (.int p2), .val (.int p3), .val (.int p4), .val (.int 1), .unset, .unset, .unset]) rfl ?_
      refine XS.iload X00.here hx rfl (hb hby at_8) rfl ?_
      refine st13 _ ?_
      refine XS.astore X13.here hx rfl (hb hby at_12) rfl rfl (l' := #[.val (.int p0), .val (.int p1), .val (.int p2), .val (.int p3), .val (.int p4), .val (.int 1), .val (.ref b13), .unset, .unset]) rfl ?_
      refine XS.aload X13.here hx rfl (hb hby at_14) rfl rfl ?_
      refine XS.iconst X13.here hx rfl (hb hby at_16) ?_
      show Ga p e below m T13 17 #[.val (.int p0), .val (.int p1), .val (.int p2), .val (.int p3), .val (.int p4), .val (.int 1), .val (.ref b13), .unset, .unset] [(.int 0), (.ref b13)] t
      refine XS.iloadN X13.here hx rfl (hb hby at_17) rfl ?_
      refine X13.ldcI hx hown (mvT hZ (Da hw 1 rfl)) rfl (hb hby at_18) ?_
      refine XS.iand X13.here hx rfl (hb hby at_20) rfl ?_
      refine XS.i2c X13.here hx rfl (hb hby at_21) rfl ?_
      refine st16 _ ?_
      refine XS.iload X16.here hx rfl (hb hby at_23) rfl ?_
      refine XS.iconst X16.here hx rfl (hb hby at_25) ?_
      refine XS.icmpYes X16.here hx rfl (pc0 := 26) (pc' := 38) rfl (hb hby at_26) rfl (flt (by decide : ¬ ((1 : Int32) < (1 : Int32)))).2.2.2 (by decide) (by decide) ?_
      show Ga p e below m T16 38 #[.val (.int p0), .val (.int p1), .val (.int p2), .val (.int p3), .val (.int p4), .val (.int 1), .val (.ref b13), .unset, .unset] [] t
      refine XS.iload X16.here hx rfl (hb hby at_38) rfl ?_
      refine XS.iconst X16.here hx rfl (hb hby at_40) ?_
      refine XS.icmpYes X16.here hx rfl (pc0 := 41) (pc' := 53) rfl (hb hby at_41) rfl (flt (by decide : ¬ ((2 : Int32) < (1 : Int32)))).2.2.2 (by decide) (by decide) ?_
      refine XS.iload X16.here hx rfl (hb hby at_53) rfl ?_
      refine XS.iconst X16.here hx rfl (hb hby at_55) ?_
      refine XS.icmpYes X16.here hx rfl (pc0 := 56) (pc' := 68) rfl (hb hby at_56) rfl (flt (by decide : ¬ ((3 : Int32) < (1 : Int32)))).2.2.2 (by decide) (by decide) ?_
      refine st17 _ ?_
      refine XS.dup X17.here hx rfl (hb hby at_71) rfl rfl ?_
      show Ga p e below m T17 72 #[.val (.int p0), .val (.int p1), .val (.int p2), .val (.int p3), .val (.int p4), .val (.int 1), .val (.ref b13), .unset, .unset] [(.ref b17), (.ref b17)] t
      refine XS.aload X17.here hx rfl (hb hby at_72) rfl rfl ?_
      exact k
    have f19 := (V16.ext E17)
    obtain ⟨_, _, ⟨T20, L20, k20, n20⟩, -, X20, ⟨Lc20, hQ20, l20, y20, z20⟩, st20⟩ := X17.specialBack hx (y := Wm) rfl hown (mvT hZ (Da hw 5 rfl)) (mvT hZ (Da hw 6 rfl)) (mvT hZ (Da hw 7 rfl)) (by decide) (backOf (W := 1) (Dx l Z a0 hw [] b17 b13 c13 ((p0 &&& (65535 : Int32)).toUInt32.toUInt16.toUInt32.toInt32) _ _ h17 n0 O17 hE f19 A17 F17_value F17_coder g_b17 (Zm _) (Bn _)) hZ (Da hw 7 rfl) (Da hw 4 rfl) (by decide) (by decide)) (g := (mkF m 74 #[.val (.int p0), .val (.int p1), .val (.int p2), .val (.int p3), .val (.int p4), .val (.int 1), .val (.ref b13), .unset, .unset] [(.ref b13), (.ref b17), (.ref b17)])) rfl (by rw [hml]; rfl) (Steps.refl _) (a := b17) (argsL := [(.ref b13)]) (rest := [(.ref b17)]) (lenOf Dp rfl) rfl (by show 2 * 0 + _ ≤ _; exact Nat.le_of_eq rfl) (hb hby at_74) (fun _ _ => ⟨rfl, e17, (by decide : 2 + 2 ≤ _), (by decide : 5 + 3 ≤ _)⟩)
    dsimp only [Pt.U, Pt.locs, Pt.cells, Pt.slots] at X20 l20 y20 z20 st20 hQ20
    subst l20 y20 z20
    obtain ⟨b20, z20, k20, vs20, rfl, N20q, O20, Kc20, g_b20, gs_b20, F20_0, F20_1, F20_2, D20_0⟩ := hQ20
    have N20 := Fr.app N16 N20q
    have K20 := K17.trans Kc20 (allS (Or.inr s_b17) all0)
    have s_b20 := Nat.le_trans K17.1 gs_b20
    have lt_b20 := F20_2.lt
    obtain ⟨_, _, ⟨T21, L21, k21, n21⟩, -, X21, hS21, hg21, ⟨Lc21, hQ21, l21, y21, z21⟩, st21⟩ := callSS X20 hx (y := Ko) hown (mvT hZ (Da hw 31 rfl)) (mvT hZ (Da hw 32 rfl)) (mvT hZ (Da hw 33 rfl)) (mvT hZ (Da hw 34 rfl)) (by decide) (backOfS (W := 0) (Gq l Z a0 hw [] b17 b20 z20 k20 vs20 _ _ T20.heap n0 O20 hE F20_0 F20_1 F20_2 D20_0) hZ (Da hw 34 rfl) (Da hw 33 rfl) (by decide) (by decide)) (g := (mkF m 81 #[.val (.int p0), .val (.int p1), .val (.int p2), .val (.int p3), .val (.int p4), .val (.int 1), .val (.ref b13), .val (.ref b17), .unset] [(.ref b17)])) rfl (by rw [hml]; rfl) (argsL := [(.ref b17)]) (rest := []) (lenOf Ai rfl) rfl (by show 2 * 0 + _ ≤ _; exact Nat.le_of_eq rfl) (hb hby at_81) (fun _ _ => ⟨rfl, rfl, (by decide : 4 + 2 ≤ _), (by decide : 8 + 20 ≤ _)⟩)
    dsimp only [Pt.U, Pt.locs, Pt.cells, Pt.slots] at X21 l21 y21 z21 st21 hQ21 hS21 hg21
    subst l21 y21 z21
    obtain ⟨X21, hS, hZ, hown⟩ := rebS hS (by exact (Nat.le_trans (Nat.le_trans (Nat.le_trans (Nat.le_trans (Nat.zero_le _) E13.1) (Keep.of_wr W16).1) E17.1) Kc20.1)) X21 hS21 hg21 hZ hown
    obtain ⟨rfl, N21q, O21, Kc21⟩ := hQ21
    have N21 := Fr.app N20 N21q
    have K21 := K20.trans Kc21 (fun x hx => nomatch hx)
    have k22 : ∀ t, Ga p e below m T21 98 #[.val (.int p0), .val (.int p1), .val (.int p2), .val (.int p3), .val (.int p4), .val (.int 1), .val (.ref b13), .val (.ref b17), .val (.ref b17)] [(.int 1)] t → Ra p e below m s₁ #[(.int p0), (.int p1), (.int p2), (.int p3), (.int p4)] maxLocals t := by
      intro t k
      refine k18 t ?_
      refine st20.trans ?_
      refine XS.astore X20.here hx rfl (hb hby at_77) rfl rfl (l' := #[.val (.int p0), .val (.int p1), .val (.int p2), .val (.int p3), .val (.int p4), .val (.int 1), .val (.ref b13), .val (.ref b17), .unset]) rfl ?_
      refine XS.aload X20.here hx rfl (hb hby at_79) rfl rfl ?_
      refine st21.trans ?_
      refine XS.astore X21.here hx rfl (hb hby at_84) rfl rfl (l' := #[.val (.int p0), .val (.int p1), .val (.int p2), .val (.int p3), .val (.int p4), .val (.int 1), .val (.ref b13), .val (.ref b17), .val (.ref b17)]) rfl ?_
      refine XS.aload X21.here hx rfl (hb hby at_86) rfl rfl ?_
      refine XS.aload X21.here hx rfl (hb hby at_88) rfl rfl ?_
      refine Jvm.RoadKit.acmp (g := (mkF m 90 #[.val (.int p0), .val (.int p1), .val (.int p2), .val (.int p3), .val (.int p4), .val (.int 1), .val (.ref b13), .val (.ref b17), .val (.ref b17)] [(.ref b17), (.ref b17)])) X21 hx rfl rfl rfl (pc0 := 90) (pc' := 93) (same := true) rfl (hb hby at_90) rfl (decide_eq_true rfl) (by decide) (by decide) ?_
      show Ga p e below m T21 93 #[.val (.int p0), .val (.int p1), .val (.int p2), .val (.int p3), .val (.int p4), .val (.int 1), .val (.ref b13), .val (.ref b17), .val (.ref b17)] [] t
      refine XS.iconst X21.here hx rfl (hb hby at_93) ?_
      refine XS.goto X21.here hx rfl (pc0 := 94) (pc' := 98) rfl (hb hby at_94) (by decide) (by decide) ?_
      exact k
    obtain ⟨fs, hr, hrun, hended, hRW⟩ := X21.leaveW hS (by exact (Nat.le_refl _)) (v := some (.int 1)) (fun h => by rw [Bd.returns] at h; cases h)
    refine hNG ⟨_, _, k22 _ ?_, hrun, hended, _, _, rfl, ?_, hRW.1, hRW.2.1, hRW.2.2.1, hRW.2.2.2.mono (by decide) (by decide)⟩
    · exact retN X21 hx (t := .boolean) Bd.returns (by simp) (hb hby at_98) hr
    · show Up Z p0 p1 p2 p3 p4 Ba Aa h0 n0 _ T21.heap _
      exact ⟨rfl, N21⟩
  · have k23 : ∀ t, Ga p e below m s₁ 5 #[.val (.int p0), .val (.int p1), .val (.int p2), .val (.int p3), .val (.int p4), .unset, .unset, .unset, .unset] [(.int 1), (.int 1)] t → Ra p e below m s₁ #[(.int p0), (.int p1), (.int p2), (.int p3), (.int p4)] maxLocals t := by
      intro t k
      refine k10 t ?_
      rw [hs11]
      exact k
    obtain ⟨T24, h24, c24, X24, e24, E24, A24, st24⟩ := newP X00 hx hZ (Da hw 0 rfl) e00 (g := (mkF m 10 #[.val (.int p0), .val (.int p1), .val (.int p2), .val (.int p3), .val (.int p4), .val (.int 2), .unset, .unset, .unset] [(.int 2)])) rfl (hb hby at_10) rfl (by decide) (cap := 2) (by decide) (by decide) (by decide) (by decide)
    obtain ⟨b24, g24⟩ : ∃ z, z = h0.size := ⟨_, rfl⟩
    rw [← g24] at A24 st24
    have O24 := O0.ext E24
    have g_b24 : n0 ≤ b24 := Nat.le_trans (Nat.le_of_eq O0.1.symm) (Nat.le_trans O0.2.1 (Nat.le_of_eq g24.symm))
    have s_b24 : h0.size ≤ b24 := Nat.le_trans K00.1 (Nat.le_of_eq g24.symm)
    have K24 := K00.ext E24
    have V24 : Arv Z h24 b24 c24 .char (2 : Int32) [(.int 0), (.int 0)] (.int 0) := (Arv.new A24 (by decide)).pad (pad_rep [] (.int 0) 2)
    have lt_b24 := V24.lt
    obtain ⟨cl25, Ar25, q25, Sz25, Nn25, Hs25, Gf25⟩ := id V24
    have hin26 : ¬ ((0 : Int32) < 0 ∨ cl25.slots.size ≤ ((0 : Int32)).toNatClampNeg) := inb_of Sz25 ⟨by decide, by decide⟩
    obtain ⟨T27, h27, X27, e27, W27, st27⟩ := stC X24 hx hZ e24 Ar25 (j := (0 : Int32)) hin26 (g := (mkF m 22 #[.val (.int p0), .val (.int p1), .val (.int p2), .val (.int p3), .val (.int p4), .val (.int 2), .val (.ref b24), .unset, .unset] [(.int ((p0 &&& (65535 : Int32)).toUInt32.toUInt16.toUInt32.toInt32)), (.int 0), (.ref b24)])) rfl rfl (hb hby at_22)
    have V27 : Arv Z h27 b24 c24 .char (2 : Int32) [(.int ((p0 &&& (65535 : Int32)).toUInt32.toUInt16.toUInt32.toInt32)), (.int 0)] (.int 0) := by
      have q := Arv.set Ar25 q25 Sz25 Nn25 Hs25 Gf25 (fits_nar_char _) W27 0 rfl (Nat.le_of_ble_eq_true rfl)
      first | exact q | (simp only [Ym] at q; exact q)
    have N27 := Fr.snoc X27 N00 g_b24
    have O27 := O24.wr W27 g_b24
    have K27 := K24.wr W27 (Or.inr s_b24)
    obtain ⟨cl28, Ar28, q28, Sz28, Nn28, Hs28, Gf28⟩ := id V27
    have hin29 : ¬ ((1 : Int32) < 0 ∨ cl28.slots.size ≤ ((1 : Int32)).toNatClampNeg) := inb_of Sz28 ⟨by decide, by decide⟩
    obtain ⟨T30, h30, X30, e30, W30, st30⟩ := stC X27 hx hZ e27 Ar28 (j := (1 : Int32)) hin29 (g := (mkF m 37 #[.val (.int p0), .val (.int p1), .val (.int p2), .val (.int p3), .val (.int p4), .val (.int 2), .val (.ref b24), .unset, .unset] [(.int ((p1 &&& (65535 : Int32)).toUInt32.toUInt16.toUInt32.toInt32)), (.int 1), (.ref b24)])) rfl rfl (hb hby at_37)
    have V30 : Arv Z h30 b24 c24 .char (2 : Int32) [(.int ((p0 &&& (65535 : Int32)).toUInt32.toUInt16.toUInt32.toInt32)), (.int ((p1 &&& (65535 : Int32)).toUInt32.toUInt16.toUInt32.toInt32))] (.int 0) := by
      have q := Arv.set Ar28 q28 Sz28 Nn28 Hs28 Gf28 (fits_nar_char _) W30 1 rfl (Nat.le_of_ble_eq_true rfl)
      first | exact q | (simp only [Ym] at q; exact q)
    have N30 := Fr.snoc X30 N27 g_b24
    have O30 := O27.wr W30 g_b24
    have K30 := K27.wr W30 (Or.inr s_b24)
    obtain ⟨T31, h31, X31, e31, E31, A31, D31, -, st31⟩ := newO X30 hx hZ hown (Da hw 2 rfl) (Da hw 3 rfl) (Da hw 4 rfl) e30 (g := (mkF m 68 #[.val (.int p0), .val (.int p1), .val (.int p2), .val (.int p3), .val (.int p4), .val (.int 2), .val (.ref b24), .unset, .unset] [])) rfl (hb hby at_68) (by decide) (by decide)
    obtain ⟨b31, g31⟩ : ∃ z, z = h30.size := ⟨_, rfl⟩
    rw [← g31] at A31 D31 st31
    have O31 := O30.ext E31
    have g_b31 : n0 ≤ b31 := Nat.le_trans (Nat.le_of_eq O30.1.symm) (Nat.le_trans O30.2.1 (Nat.le_of_eq g31.symm))
    have s_b31 : h0.size ≤ b31 := Nat.le_trans K30.1 (Nat.le_of_eq g31.symm)
    have K31 := K30.ext E31
    have lt_b31 := A31.lt
    have F31_coder : Fld Z h31 b31 "java/lang/String" "coder" "B" (.int 0) := D31 (Or.inr (Da hw 28 rfl)) (ty := .byte) (by decide)
    have F31_value : Fld Z h31 b31 "java/lang/String" "value" "[B" .null := D31 (Or.inr (Da hw 30 rfl)) (ty := (.array .byte)) (by decide)
    have k32 : ∀ t, Ga p e below m T31 74 #[.val (.int p0), .val (.int p1), .val (.int p2), .val (.int p3), .val (.int p4), .val (.int 2), .val (.ref b24), .unset, .unset] [(.ref b24), (.ref b31), (.ref b31)] t → Ra p e below m s₁ #[(.int p0), (.int p1), (.int p2), (.int p3), (.int p4)] maxLocals t := by
      intro t k
      refine k23 t ?_
      refine XS.iadd X00.here hx rfl (hb hby at_5) rfl ?_
      show Ga p e below m s₁ 6 #[.val (.int p0), .val (.int p1), .val (.int p2), .val (.int p3), .val (.int p4), .unset, .unset, .unset, .unset] [(.int ((1 : Int32) + (1 : Int32)))] t
      rw [show ((1 : Int32) + (1 : Int32)) = (2 : Int32) from by decide]
      refine XS.istore X00.here hx rfl (hb hby at_6) rfl (l' := #[.val (.int p0), .val (.int p1), .val (.int p2), .val (.int p3), .val (.int p4), .val (.int 2), .unset, .unset, .unset]) rfl ?_
      refine XS.iload X00.here hx rfl (hb hby at_8) rfl ?_
      refine st24 _ ?_
      refine XS.astore X24.here hx rfl (hb hby at_12) rfl rfl (l' := #[.val (.int p0), .val (.int p1), .val (.int p2), .val (.int p3), .val (.int p4), .val (.int 2), .val (.ref b24), .unset, .unset]) rfl ?_
      refine XS.aload X24.here hx rfl (hb hby at_14) rfl rfl ?_
      refine XS.iconst X24.here hx rfl (hb hby at_16) ?_
      show Ga p e below m T24 17 #[.val (.int p0), .val (.int p1), .val (.int p2), .val (.int p3), .val (.int p4), .val (.int 2), .val (.ref b24), .unset, .unset] [(.int 0), (.ref b24)] t
      refine XS.iloadN X24.here hx rfl (hb hby at_17) rfl ?_
      refine X24.ldcI hx hown (mvT hZ (Da hw 1 rfl)) rfl (hb hby at_18) ?_
      refine XS.iand X24.here hx rfl (hb hby at_20) rfl ?_
      refine XS.i2c X24.here hx rfl (hb hby at_21) rfl ?_
      refine st27 _ ?_
      refine XS.iload X27.here hx rfl (hb hby at_23) rfl ?_
      refine XS.iconst X27.here hx rfl (hb hby at_25) ?_
      refine XS.icmpNo X27.here hx rfl (hb hby at_26) rfl (tlt (by decide : (1 : Int32) < (2 : Int32))).2.2.2 ?_
      show Ga p e below m T27 29 #[.val (.int p0), .val (.int p1), .val (.int p2), .val (.int p3), .val (.int p4), .val (.int 2), .val (.ref b24), .unset, .unset] [] t
      refine XS.aload X27.here hx rfl (hb hby at_29) rfl rfl ?_
      refine XS.iconst X27.here hx rfl (hb hby at_31) ?_
      refine XS.iloadN X27.here hx rfl (hb hby at_32) rfl ?_
      refine X27.ldcI hx hown (mvT hZ (Da hw 1 rfl)) rfl (hb hby at_33) ?_
      refine XS.iand X27.here hx rfl (hb hby at_35) rfl ?_
      refine XS.i2c X27.here hx rfl (hb hby at_36) rfl ?_
      refine st30 _ ?_
      refine XS.iload X30.here hx rfl (hb hby at_38) rfl ?_
      show Ga p e below m T30 40 #[.val (.int p0), .val (.int p1), .val (.int p2), .val (.int p3), .val (.int p4), .val (.int 2), .val (.ref b24), .unset, .unset] [(.int 2)] t
      refine XS.iconst X30.here hx rfl (hb hby at_40) ?_
      refine XS.icmpYes X30.here hx rfl (pc0 := 41) (pc' := 53) rfl (hb hby at_41) rfl (flt (by decide : ¬ ((2 : Int32) < (2 : Int32)))).2.2.2 (by decide) (by decide) ?_
      refine XS.iload X30.here hx rfl (hb hby at_53) rfl ?_
      refine XS.iconst X30.here hx rfl (hb hby at_55) ?_
      refine XS.icmpYes X30.here hx rfl (pc0 := 56) (pc' := 68) rfl (hb hby at_56) rfl (flt (by decide : ¬ ((3 : Int32) < (2 : Int32)))).2.2.2 (by decide) (by decide) ?_
      refine st31 _ ?_
      refine XS.dup X31.here hx rfl (hb hby at_71) rfl rfl ?_
      refine XS.aload X31.here hx rfl (hb hby at_72) rfl rfl ?_
      show Ga p e below m T31 74 #[.val (.int p0), .val (.int p1), .val (.int p2), .val (.int p3), .val (.int p4), .val (.int 2), .val (.ref b24), .unset, .unset] [(.ref b24), (.ref b31), (.ref b31)] t
      exact k
    have f33 := (V30.ext E31)
    obtain ⟨_, _, ⟨T34, L34, k34, n34⟩, -, X34, ⟨Lc34, hQ34, l34, y34, z34⟩, st34⟩ := X31.specialBack hx (y := Wm) rfl hown (mvT hZ (Da hw 5 rfl)) (mvT hZ (Da hw 6 rfl)) (mvT hZ (Da hw 7 rfl)) (by decide) (backOf (W := 1) (Wx l Z a0 hw [] b31 b24 c24 ((p0 &&& (65535 : Int32)).toUInt32.toUInt16.toUInt32.toInt32) ((p1 &&& (65535 : Int32)).toUInt32.toUInt16.toUInt32.toInt32) _ _ h31 n0 O31 hE f33 A31 F31_value F31_coder g_b31 (Zm _) (Bn _) (Zm _) (Bn _)) hZ (Da hw 7 rfl) (Da hw 4 rfl) (by decide) (by decide)) (g := (mkF m 74 #[.val (.int p0), .val (.int p1), .val (.int p2), .val (.int p3), .val (.int p4), .val (.int 2), .val (.ref b24), .unset, .unset] [(.ref b24), (.ref b31), (.ref b31)])) rfl (by rw [hml]; rfl) (Steps.refl _) (a := b31) (argsL := [(.ref b24)]) (rest := [(.ref b31)]) (lenOf Dp rfl) rfl (by show 2 * 0 + _ ≤ _; exact Nat.le_of_eq rfl) (hb hby at_74) (fun _ _ => ⟨rfl, e31, (by decide : 2 + 2 ≤ _), (by decide : 6 + 6 ≤ _)⟩)
    dsimp only [Pt.U, Pt.locs, Pt.cells, Pt.slots] at X34 l34 y34 z34 st34 hQ34
    subst l34 y34 z34
    obtain ⟨b34, z34, k34, vs34, rfl, N34q, O34, Kc34, g_b34, gs_b34, F34_0, F34_1, F34_2, D34_0⟩ := hQ34
    have N34 := Fr.app N30 N34q
    have K34 := K31.trans Kc34 (allS (Or.inr s_b31) all0)
    have s_b34 := Nat.le_trans K31.1 gs_b34
    have lt_b34 := F34_2.lt
    obtain ⟨_, _, ⟨T35, L35, k35, n35⟩, -, X35, hS35, hg35, ⟨Lc35, hQ35, l35, y35, z35⟩, st35⟩ := callSS X34 hx (y := Ko) hown (mvT hZ (Da hw 31 rfl)) (mvT hZ (Da hw 32 rfl)) (mvT hZ (Da hw 33 rfl)) (mvT hZ (Da hw 34 rfl)) (by decide) (backOfS (W := 0) (Gq l Z a0 hw [] b31 b34 z34 k34 vs34 _ _ T34.heap n0 O34 hE F34_0 F34_1 F34_2 D34_0) hZ (Da hw 34 rfl) (Da hw 33 rfl) (by decide) (by decide)) (g := (mkF m 81 #[.val (.int p0), .val (.int p1), .val (.int p2), .val (.int p3), .val (.int p4), .val (.int 2), .val (.ref b24), .val (.ref b31), .unset] [(.ref b31)])) rfl (by rw [hml]; rfl) (argsL := [(.ref b31)]) (rest := []) (lenOf Ai rfl) rfl (by show 2 * 0 + _ ≤ _; exact Nat.le_of_eq rfl) (hb hby at_81) (fun _ _ => ⟨rfl, rfl, (by decide : 4 + 2 ≤ _), (by decide : 12 + 20 ≤ _)⟩)
    dsimp only [Pt.U, Pt.locs, Pt.cells, Pt.slots] at X35 l35 y35 z35 st35 hQ35 hS35 hg35
    subst l35 y35 z35
    obtain ⟨X35, hS, hZ, hown⟩ := rebS hS (by exact (Nat.le_trans (Nat.le_trans (Nat.le_trans (Nat.le_trans (Nat.le_trans (Nat.zero_le _) E24.1) (Keep.of_wr W27).1) (Keep.of_wr W30).1) E31.1) Kc34.1)) X35 hS35 hg35 hZ hown
    obtain ⟨rfl, N35q, O35, Kc35⟩ := hQ35
    have N35 := Fr.app N34 N35q
    have K35 := K34.trans Kc35 (fun x hx => nomatch hx)
    have k36 : ∀ t, Ga p e below m T35 98 #[.val (.int p0), .val (.int p1), .val (.int p2), .val (.int p3), .val (.int p4), .val (.int 2), .val (.ref b24), .val (.ref b31), .val (.ref b31)] [(.int 1)] t → Ra p e below m s₁ #[(.int p0), (.int p1), (.int p2), (.int p3), (.int p4)] maxLocals t := by
      intro t k
      refine k32 t ?_
      refine st34.trans ?_
      refine XS.astore X34.here hx rfl (hb hby at_77) rfl rfl (l' := #[.val (.int p0), .val (.int p1), .val (.int p2), .val (.int p3), .val (.int p4), .val (.int 2), .val (.ref b24), .val (.ref b31), .unset]) rfl ?_
      refine XS.aload X34.here hx rfl (hb hby at_79) rfl rfl ?_
      refine st35.trans ?_
      refine XS.astore X35.here hx rfl (hb hby at_84) rfl rfl (l' := #[.val (.int p0), .val (.int p1), .val (.int p2), .val (.int p3), .val (.int p4), .val (.int 2), .val (.ref b24), .val (.ref b31), .val (.ref b31)]) rfl ?_
      refine XS.aload X35.here hx rfl (hb hby at_86) rfl rfl ?_
      refine XS.aload X35.here hx rfl (hb hby at_88) rfl rfl ?_
      refine Jvm.RoadKit.acmp (g := (mkF m 90 #[.val (.int p0), .val (.int p1), .val (.int p2), .val (.int p3), .val (.int p4), .val (.int 2), .val (.ref b24), .val (.ref b31), .val (.ref b31)] [(.ref b31), (.ref b31)])) X35 hx rfl rfl rfl (pc0 := 90) (pc' := 93) (same := true) rfl (hb hby at_90) rfl (decide_eq_true rfl) (by decide) (by decide) ?_
      show Ga p e below m T35 93 #[.val (.int p0), .val (.int p1), .val (.int p2), .val (.int p3), .val (.int p4), .val (.int 2), .val (.ref b24), .val (.ref b31), .val (.ref b31)] [] t
      refine XS.iconst X35.here hx rfl (hb hby at_93) ?_
      refine XS.goto X35.here hx rfl (pc0 := 94) (pc' := 98) rfl (hb hby at_94) (by decide) (by decide) ?_
      exact k
    obtain ⟨fs, hr, hrun, hended, hRW⟩ := X35.leaveW hS (by exact (Nat.le_refl _)) (v := some (.int 1)) (fun h => by rw [Bd.returns] at h; cases h)
    refine hNG ⟨_, _, k36 _ ?_, hrun, hended, _, _, rfl, ?_, hRW.1, hRW.2.1, hRW.2.2.1, hRW.2.2.2.mono (by decide) (by decide)⟩
    · exact retN X35 hx (t := .boolean) Bd.returns (by simp) (hb hby at_98) hr
    · show Up Z p0 p1 p2 p3 p4 Ba Aa h0 n0 _ T35.heap _
      exact ⟨rfl, N35⟩
  · have k37 : ∀ t, Ga p e below m s₁ 5 #[.val (.int p0), .val (.int p1), .val (.int p2), .val (.int p3), .val (.int p4), .unset, .unset, .unset, .unset] [(.int 2), (.int 1)] t → Ra p e below m s₁ #[(.int p0), (.int p1), (.int p2), (.int p3), (.int p4)] maxLocals t := by
      intro t k
      refine k10 t ?_
      rw [hs11]
      exact k
    obtain ⟨T38, h38, c38, X38, e38, E38, A38, st38⟩ := newP X00 hx hZ (Da hw 0 rfl) e00 (g := (mkF m 10 #[.val (.int p0), .val (.int p1), .val (.int p2), .val (.int p3), .val (.int p4), .val (.int 3), .unset, .unset, .unset] [(.int 3)])) rfl (hb hby at_10) rfl (by decide) (cap := 3) (by decide) (by decide) (by decide) (by decide)
    obtain ⟨b38, g38⟩ : ∃ z, z = h0.size := ⟨_, rfl⟩
    rw [← g38] at A38 st38
    have O38 := O0.ext E38
    have g_b38 : n0 ≤ b38 := Nat.le_trans (Nat.le_of_eq O0.1.symm) (Nat.le_trans O0.2.1 (Nat.le_of_eq g38.symm))
    have s_b38 : h0.size ≤ b38 := Nat.le_trans K00.1 (Nat.le_of_eq g38.symm)
    have K38 := K00.ext E38
    have V38 : Arv Z h38 b38 c38 .char (3 : Int32) [(.int 0), (.int 0), (.int 0)] (.int 0) := (Arv.new A38 (by decide)).pad (pad_rep [] (.int 0) 3)
    have lt_b38 := V38.lt
    obtain ⟨cl39, Ar39, q39, Sz39, Nn39, Hs39, Gf39⟩ := id V38
    have hin40 : ¬ ((0 : Int32) < 0 ∨ cl39.slots.size ≤ ((0 : Int32)).toNatClampNeg) := inb_of Sz39 ⟨by decide, by decide⟩
    obtain ⟨T41, h41, X41, e41, W41, st41⟩ := stC X38 hx hZ e38 Ar39 (j := (0 : Int32)) hin40 (g := (mkF m 22 #[.val (.int p0), .val (.int p1), .val (.int p2), .val (.int p3), .val (.int p4), .val (.int 3), .val (.ref b38), .unset, .unset] [(.int ((p0 &&& (65535 : Int32)).toUInt32.toUInt16.toUInt32.toInt32)), (.int 0), (.ref b38)])) rfl rfl (hb hby at_22)
    have V41 : Arv Z h41 b38 c38 .char (3 : Int32) [(.int ((p0 &&& (65535 : Int32)).toUInt32.toUInt16.toUInt32.toInt32)), (.int 0), (.int 0)] (.int 0) := by
      have q := Arv.set Ar39 q39 Sz39 Nn39 Hs39 Gf39 (fits_nar_char _) W41 0 rfl (Nat.le_of_ble_eq_true rfl)
      first | exact q | (simp only [Ym] at q; exact q)
    have N41 := Fr.snoc X41 N00 g_b38
    have O41 := O38.wr W41 g_b38
    have K41 := K38.wr W41 (Or.inr s_b38)
    obtain ⟨cl42, Ar42, q42, Sz42, Nn42, Hs42, Gf42⟩ := id V41
    have hin43 : ¬ ((1 : Int32) < 0 ∨ cl42.slots.size ≤ ((1 : Int32)).toNatClampNeg) := inb_of Sz42 ⟨by decide, by decide⟩
    obtain ⟨T44, h44, X44, e44, W44, st44⟩ := stC X41 hx hZ e41 Ar42 (j := (1 : Int32)) hin43 (g := (mkF m 37 #[.val (.int p0), .val (.int p1), .val (.int p2), .val (.int p3), .val (.int p4), .val (.int 3), .val (.ref b38), .unset, .unset] [(.int ((p1 &&& (65535 : Int32)).toUInt32.toUInt16.toUInt32.toInt32)), (.int 1), (.ref b38)])) rfl rfl (hb hby at_37)
    have V44 : Arv Z h44 b38 c38 .char (3 : Int32) [(.int ((p0 &&& (65535 : Int32)).toUInt32.toUInt16.toUInt32.toInt32)), (.int ((p1 &&& (65535 : Int32)).toUInt32.toUInt16.toUInt32.toInt32)), (.int 0)] (.int 0) := by
      have q := Arv.set Ar42 q42 Sz42 Nn42 Hs42 Gf42 (fits_nar_char _) W44 1 rfl (Nat.le_of_ble_eq_true rfl)
      first | exact q | (simp only [Ym] at q; exact q)
    have N44 := Fr.snoc X44 N41 g_b38
    have O44 := O41.wr W44 g_b38
    have K44 := K41.wr W44 (Or.inr s_b38)
    obtain ⟨cl45, Ar45, q45, Sz45, Nn45, Hs45, Gf45⟩ := id V44
    have hin46 : ¬ ((2 : Int32) < 0 ∨ cl45.slots.size ≤ ((2 : Int32)).toNatClampNeg) := inb_of Sz45 ⟨by decide, by decide⟩
    obtain ⟨T47, h47, X47, e47, W47, st47⟩ := stC X44 hx hZ e44 Ar45 (j := (2 : Int32)) hin46 (g := (mkF m 52 #[.val (.int p0), .val (.int p1), .val (.int p2), .val (.int p3), .val (.int p4), .val (.int 3), .val (.ref b38), .unset, .unset] [(.int ((p2 &&& (65535 : Int32)).toUInt32.toUInt16.toUInt32.toInt32)), (.int 2), (.ref b38)])) rfl rfl (hb hby at_52)
    have V47 : Arv Z h47 b38 c38 .char (3 : Int32) [(.int ((p0 &&& (65535 : Int32)).toUInt32.toUInt16.toUInt32.toInt32)), (.int ((p1 &&& (65535 : Int32)).toUInt32.toUInt16.toUInt32.toInt32)), (.int ((p2 &&& (65535 : Int32)).toUInt32.toUInt16.toUInt32.toInt32))] (.int 0) := by
      have q := Arv.set Ar45 q45 Sz45 Nn45 Hs45 Gf45 (fits_nar_char _) W47 2 rfl (Nat.le_of_ble_eq_true rfl)
      first | exact q | (simp only [Ym] at q; exact q)
    have N47 := Fr.snoc X47 N44 g_b38
    have O47 := O44.wr W47 g_b38
    have K47 := K44.wr W47 (Or.inr s_b38)
    obtain ⟨T48, h48, X48, e48, E48, A48, D48, -, st48⟩ := newO X47 hx hZ hown (Da hw 2 rfl) (Da hw 3 rfl) (Da hw 4 rfl) e47 (g := (mkF m 68 #[.val (.int p0), .val (.int p1), .val (.int p2), .val (.int p3), .val (.int p4), .val (.int 3), .val (.ref b38), .unset, .unset] [])) rfl (hb hby at_68) (by decide) (by decide)
    obtain ⟨b48, g48⟩ : ∃ z, z = h47.size := ⟨_, rfl⟩
    rw [← g48] at A48 D48 st48
    have O48 := O47.ext E48
    have g_b48 : n0 ≤ b48 := Nat.le_trans (Nat.le_of_eq O47.1.symm) (Nat.le_trans O47.2.1 (Nat.le_of_eq g48.symm))
    have s_b48 : h0.size ≤ b48 := Nat.le_trans K47.1 (Nat.le_of_eq g48.symm)
    have K48 := K47.ext E48
    have lt_b48 := A48.lt
    have F48_coder : Fld Z h48 b48 "java/lang/String" "coder" "B" (.int 0) := D48 (Or.inr (Da hw 28 rfl)) (ty := .byte) (by decide)
    have F48_value : Fld Z h48 b48 "java/lang/String" "value" "[B" .null := D48 (Or.inr (Da hw 30 rfl)) (ty := (.array .byte)) (by decide)
    have k49 : ∀ t, Ga p e below m T48 74 #[.val (.int p0), .val (.int p1), .val (.int p2), .val (.int p3), .val (.int p4), .val (.int 3), .val (.ref b38), .unset, .unset] [(.ref b38), (.ref b48), (.ref b48)] t → Ra p e below m s₁ #[(.int p0), (.int p1), (.int p2), (.int p3), (.int p4)] maxLocals t := by
      intro t k
      refine k37 t ?_
      refine XS.iadd X00.here hx rfl (hb hby at_5) rfl ?_
      show Ga p e below m s₁ 6 #[.val (.int p0), .val (.int p1), .val (.int p2), .val (.int p3), .val (.int p4), .unset, .unset, .unset, .unset] [(.int ((1 : Int32) + (2 : Int32)))] t
      rw [show ((1 : Int32) + (2 : Int32)) = (3 : Int32) from by decide]
      refine XS.istore X00.here hx rfl (hb hby at_6) rfl (l' := #[.val (.int p0), .val (.int p1), .val (.int p2), .val (.int p3), .val (.int p4), .val (.int 3), .unset, .unset, .unset]) rfl ?_
      refine XS.iload X00.here hx rfl (hb hby at_8) rfl ?_
      refine st38 _ ?_
      refine XS.astore X38.here hx rfl (hb hby at_12) rfl rfl (l' := #[.val (.int p0), .val (.int p1), .val (.int p2), .val (.int p3), .val (.int p4), .val (.int 3), .val (.ref b38), .unset, .unset]) rfl ?_
      refine XS.aload X38.here hx rfl (hb hby at_14) rfl rfl ?_
      refine XS.iconst X38.here hx rfl (hb hby at_16) ?_
      show Ga p e below m T38 17 #[.val (.int p0), .val (.int p1), .val (.int p2), .val (.int p3), .val (.int p4), .val (.int 3), .val (.ref b38), .unset, .unset] [(.int 0), (.ref b38)] t
      refine XS.iloadN X38.here hx rfl (hb hby at_17) rfl ?_
      refine X38.ldcI hx hown (mvT hZ (Da hw 1 rfl)) rfl (hb hby at_18) ?_
      refine XS.iand X38.here hx rfl (hb hby at_20) rfl ?_
      refine XS.i2c X38.here hx rfl (hb hby at_21) rfl ?_
      refine st41 _ ?_
      refine XS.iload X41.here hx rfl (hb hby at_23) rfl ?_
      refine XS.iconst X41.here hx rfl (hb hby at_25) ?_
      refine XS.icmpNo X41.here hx rfl (hb hby at_26) rfl (tlt (by decide : (1 : Int32) < (3 : Int32))).2.2.2 ?_
      show Ga p e below m T41 29 #[.val (.int p0), .val (.int p1), .val (.int p2), .val (.int p3), .val (.int p4), .val (.int 3), .val (.ref b38), .unset, .unset] [] t
      refine XS.aload X41.here hx rfl (hb hby at_29) rfl rfl ?_
      refine XS.iconst X41.here hx rfl (hb hby at_31) ?_
      refine XS.iloadN X41.here hx rfl (hb hby at_32) rfl ?_
      refine X41.ldcI hx hown (mvT hZ (Da hw 1 rfl)) rfl (hb hby at_33) ?_
      refine XS.iand X41.here hx rfl (hb hby at_35) rfl ?_
      refine XS.i2c X41.here hx rfl (hb hby at_36) rfl ?_
      refine st44 _ ?_
      refine XS.iload X44.here hx rfl (hb hby at_38) rfl ?_
      show Ga p e below m T44 40 #[.val (.int p0), .val (.int p1), .val (.int p2), .val (.int p3), .val (.int p4), .val (.int 3), .val (.ref b38), .unset, .unset] [(.int 3)] t
      refine XS.iconst X44.here hx rfl (hb hby at_40) ?_
      refine XS.icmpNo X44.here hx rfl (hb hby at_41) rfl (tlt (by decide : (2 : Int32) < (3 : Int32))).2.2.2 ?_
      refine XS.aload X44.here hx rfl (hb hby at_44) rfl rfl ?_
      refine XS.iconst X44.here hx rfl (hb hby at_46) ?_
      refine XS.iloadN X44.here hx rfl (hb hby at_47) rfl ?_
      refine X44.ldcI hx hown (mvT hZ (Da hw 1 rfl)) rfl (hb hby at_48) ?_
      refine XS.iand X44.here hx rfl (hb hby at_50) rfl ?_
      refine XS.i2c X44.here hx rfl (hb hby at_51) rfl ?_
      show Ga p e below m T44 52 #[.val (.int p0), .val (.int p1), .val (.int p2), .val (.int p3), .val (.int p4), .val (.int 3), .val (.ref b38), .unset, .unset] [(.int ((p2 &&& (65535 : Int32)).toUInt32.toUInt16.toUInt32.toInt32)), (.int 2), (.ref b38)] t
      refine st47 _ ?_
      refine XS.iload X47.here hx rfl (hb hby at_53) rfl ?_
      refine XS.iconst X47.here hx rfl (hb hby at_55) ?_
      refine XS.icmpYes X47.here hx rfl (pc0 := 56) (pc' := 68) rfl (hb hby at_56) rfl (flt (by decide : ¬ ((3 : Int32) < (3 : Int32)))).2.2.2 (by decide) (by decide) ?_
      refine st48 _ ?_
      refine XS.dup X48.here hx rfl (hb hby at_71) rfl rfl ?_
      refine XS.aload X48.here hx rfl (hb hby at_72) rfl rfl ?_
      exact k
    have f50 := (V47.ext E48)
    obtain ⟨_, _, ⟨T51, L51, k51, n51⟩, -, X51, ⟨Lc51, hQ51, l51, y51, z51⟩, st51⟩ := X48.specialBack hx (y := Wm) rfl hown (mvT hZ (Da hw 5 rfl)) (mvT hZ (Da hw 6 rfl)) (mvT hZ (Da hw 7 rfl)) (by decide) (backOf (W := 1) (Py l Z a0 hw [] b48 b38 c38 ((p0 &&& (65535 : Int32)).toUInt32.toUInt16.toUInt32.toInt32) ((p1 &&& (65535 : Int32)).toUInt32.toUInt16.toUInt32.toInt32) ((p2 &&& (65535 : Int32)).toUInt32.toUInt16.toUInt32.toInt32) _ _ h48 n0 O48 hE f50 A48 F48_value F48_coder g_b48 (Zm _) (Bn _) (Zm _) (Bn _) (Zm _) (Bn _)) hZ (Da hw 7 rfl) (Da hw 4 rfl) (by decide) (by decide)) (g := (mkF m 74 #[.val (.int p0), .val (.int p1), .val (.int p2), .val (.int p3), .val (.int p4), .val (.int 3), .val (.ref b38), .unset, .unset] [(.ref b38), (.ref b48), (.ref b48)])) rfl (by rw [hml]; rfl) (Steps.refl _) (a := b48) (argsL := [(.ref b38)]) (rest := [(.ref b48)]) (lenOf Dp rfl) rfl (by show 2 * 0 + _ ≤ _; exact Nat.le_of_eq rfl) (hb hby at_74) (fun _ _ => ⟨rfl, e48, (by decide : 2 + 2 ≤ _), (by decide : 7 + 9 ≤ _)⟩)
    dsimp only [Pt.U, Pt.locs, Pt.cells, Pt.slots] at X51 l51 y51 z51 st51 hQ51
    subst l51 y51 z51
    obtain ⟨b51, z51, k51, vs51, rfl, N51q, O51, Kc51, g_b51, gs_b51, F51_0, F51_1, F51_2, D51_0⟩ := hQ51
    have N51 := Fr.app N47 N51q
    have K51 := K48.trans Kc51 (allS (Or.inr s_b48) all0)
    have s_b51 := Nat.le_trans K48.1 gs_b51
    have lt_b51 := F51_2.lt
    obtain ⟨_, _, ⟨T52, L52, k52, n52⟩, -, X52, hS52, hg52, ⟨Lc52, hQ52, l52, y52, z52⟩, st52⟩ := callSS X51 hx (y := Ko) hown (mvT hZ (Da hw 31 rfl)) (mvT hZ (Da hw 32 rfl)) (mvT hZ (Da hw 33 rfl)) (mvT hZ (Da hw 34 rfl)) (by decide) (backOfS (W := 0) (Gq l Z a0 hw [] b48 b51 z51 k51 vs51 _ _ T51.heap n0 O51 hE F51_0 F51_1 F51_2 D51_0) hZ (Da hw 34 rfl) (Da hw 33 rfl) (by decide) (by decide)) (g := (mkF m 81 #[.val (.int p0), .val (.int p1), .val (.int p2), .val (.int p3), .val (.int p4), .val (.int 3), .val (.ref b38), .val (.ref b48), .unset] [(.ref b48)])) rfl (by rw [hml]; rfl) (argsL := [(.ref b48)]) (rest := []) (lenOf Ai rfl) rfl (by show 2 * 0 + _ ≤ _; exact Nat.le_of_eq rfl) (hb hby at_81) (fun _ _ => ⟨rfl, rfl, (by decide : 4 + 2 ≤ _), (by decide : 16 + 20 ≤ _)⟩)
    dsimp only [Pt.U, Pt.locs, Pt.cells, Pt.slots] at X52 l52 y52 z52 st52 hQ52 hS52 hg52
    subst l52 y52 z52
    obtain ⟨X52, hS, hZ, hown⟩ := rebS hS (by exact (Nat.le_trans (Nat.le_trans (Nat.le_trans (Nat.le_trans (Nat.le_trans (Nat.le_trans (Nat.zero_le _) E38.1) (Keep.of_wr W41).1) (Keep.of_wr W44).1) (Keep.of_wr W47).1) E48.1) Kc51.1)) X52 hS52 hg52 hZ hown
    obtain ⟨rfl, N52q, O52, Kc52⟩ := hQ52
    have N52 := Fr.app N51 N52q
    have K52 := K51.trans Kc52 (fun x hx => nomatch hx)
    have k53 : ∀ t, Ga p e below m T52 98 #[.val (.int p0), .val (.int p1), .val (.int p2), .val (.int p3), .val (.int p4), .val (.int 3), .val (.ref b38), .val (.ref b48), .val (.ref b48)] [(.int 1)] t → Ra p e below m s₁ #[(.int p0), (.int p1), (.int p2), (.int p3), (.int p4)] maxLocals t := by
      intro t k
      refine k49 t ?_
      refine st51.trans ?_
      refine XS.astore X51.here hx rfl (hb hby at_77) rfl rfl (l' := #[.val (.int p0), .val (.int p1), .val (.int p2), .val (.int p3), .val (.int p4), .val (.int 3), .val (.ref b38), .val (.ref b48), .unset]) rfl ?_
      refine XS.aload X51.here hx rfl (hb hby at_79) rfl rfl ?_
      refine st52.trans ?_
      refine XS.astore X52.here hx rfl (hb hby at_84) rfl rfl (l' := #[.val (.int p0), .val (.int p1), .val (.int p2), .val (.int p3), .val (.int p4), .val (.int 3), .val (.ref b38), .val (.ref b48), .val (.ref b48)]) rfl ?_
      refine XS.aload X52.here hx rfl (hb hby at_86) rfl rfl ?_
      refine XS.aload X52.here hx rfl (hb hby at_88) rfl rfl ?_
      refine Jvm.RoadKit.acmp (g := (mkF m 90 #[.val (.int p0), .val (.int p1), .val (.int p2), .val (.int p3), .val (.int p4), .val (.int 3), .val (.ref b38), .val (.ref b48), .val (.ref b48)] [(.ref b48), (.ref b48)])) X52 hx rfl rfl rfl (pc0 := 90) (pc' := 93) (same := true) rfl (hb hby at_90) rfl (decide_eq_true rfl) (by decide) (by decide) ?_
      show Ga p e below m T52 93 #[.val (.int p0), .val (.int p1), .val (.int p2), .val (.int p3), .val (.int p4), .val (.int 3), .val (.ref b38), .val (.ref b48), .val (.ref b48)] [] t
      refine XS.iconst X52.here hx rfl (hb hby at_93) ?_
      refine XS.goto X52.here hx rfl (pc0 := 94) (pc' := 98) rfl (hb hby at_94) (by decide) (by decide) ?_
      exact k
    obtain ⟨fs, hr, hrun, hended, hRW⟩ := X52.leaveW hS (by exact (Nat.le_refl _)) (v := some (.int 1)) (fun h => by rw [Bd.returns] at h; cases h)
    refine hNG ⟨_, _, k53 _ ?_, hrun, hended, _, _, rfl, ?_, hRW.1, hRW.2.1, hRW.2.2.1, hRW.2.2.2.mono (by decide) (by decide)⟩
    · exact retN X52 hx (t := .boolean) Bd.returns (by simp) (hb hby at_98) hr
    · show Up Z p0 p1 p2 p3 p4 Ba Aa h0 n0 _ T52.heap _
      exact ⟨rfl, N52⟩
  · have k54 : ∀ t, Ga p e below m s₁ 5 #[.val (.int p0), .val (.int p1), .val (.int p2), .val (.int p3), .val (.int p4), .unset, .unset, .unset, .unset] [(.int 3), (.int 1)] t → Ra p e below m s₁ #[(.int p0), (.int p1), (.int p2), (.int p3), (.int p4)] maxLocals t := by
      intro t k
      refine k10 t ?_
      rw [hs11]
      exact k
    obtain ⟨T55, h55, c55, X55, e55, E55, A55, st55⟩ := newP X00 hx hZ (Da hw 0 rfl) e00 (g := (mkF m 10 #[.val (.int p0), .val (.int p1), .val (.int p2), .val (.int p3), .val (.int p4), .val (.int 4), .unset, .unset, .unset] [(.int 4)])) rfl (hb hby at_10) rfl (by decide) (cap := 4) (by decide) (by decide) (by decide) (by decide)
    obtain ⟨b55, g55⟩ : ∃ z, z = h0.size := ⟨_, rfl⟩
    rw [← g55] at A55 st55
    have O55 := O0.ext E55
    have g_b55 : n0 ≤ b55 := Nat.le_trans (Nat.le_of_eq O0.1.symm) (Nat.le_trans O0.2.1 (Nat.le_of_eq g55.symm))
    have s_b55 : h0.size ≤ b55 := Nat.le_trans K00.1 (Nat.le_of_eq g55.symm)
    have K55 := K00.ext E55
    have V55 : Arv Z h55 b55 c55 .char (4 : Int32) [(.int 0), (.int 0), (.int 0), (.int 0)] (.int 0) := (Arv.new A55 (by decide)).pad (pad_rep [] (.int 0) 4)
    have lt_b55 := V55.lt
    obtain ⟨cl56, Ar56, q56, Sz56, Nn56, Hs56, Gf56⟩ := id V55
    have hin57 : ¬ ((0 : Int32) < 0 ∨ cl56.slots.size ≤ ((0 : Int32)).toNatClampNeg) := inb_of Sz56 ⟨by decide, by decide⟩
    obtain ⟨T58, h58, X58, e58, W58, st58⟩ := stC X55 hx hZ e55 Ar56 (j := (0 : Int32)) hin57 (g := (mkF m 22 #[.val (.int p0), .val (.int p1), .val (.int p2), .val (.int p3), .val (.int p4), .val (.int 4), .val (.ref b55), .unset, .unset] [(.int ((p0 &&& (65535 : Int32)).toUInt32.toUInt16.toUInt32.toInt32)), (.int 0), (.ref b55)])) rfl rfl (hb hby at_22)
    have V58 : Arv Z h58 b55 c55 .char (4 : Int32) [(.int ((p0 &&& (65535 : Int32)).toUInt32.toUInt16.toUInt32.toInt32)), (.int 0), (.int 0), (.int 0)] (.int 0) := by
      have q := Arv.set Ar56 q56 Sz56 Nn56 Hs56 Gf56 (fits_nar_char _) W58 0 rfl (Nat.le_of_ble_eq_true rfl)
      first | exact q | (simp only [Ym] at q; exact q)
    have N58 := Fr.snoc X58 N00 g_b55
    have O58 := O55.wr W58 g_b55
    have K58 := K55.wr W58 (Or.inr s_b55)
    obtain ⟨cl59, Ar59, q59, Sz59, Nn59, Hs59, Gf59⟩ := id V58
    have hin60 : ¬ ((1 : Int32) < 0 ∨ cl59.slots.size ≤ ((1 : Int32)).toNatClampNeg) := inb_of Sz59 ⟨by decide, by decide⟩
    obtain ⟨T61, h61, X61, e61, W61, st61⟩ := stC X58 hx hZ e58 Ar59 (j := (1 : Int32)) hin60 (g := (mkF m 37 #[.val (.int p0), .val (.int p1), .val (.int p2), .val (.int p3), .val (.int p4), .val (.int 4), .val (.ref b55), .unset, .unset] [(.int ((p1 &&& (65535 : Int32)).toUInt32.toUInt16.toUInt32.toInt32)), (.int 1), (.ref b55)])) rfl rfl (hb hby at_37)
    have V61 : Arv Z h61 b55 c55 .char (4 : Int32) [(.int ((p0 &&& (65535 : Int32)).toUInt32.toUInt16.toUInt32.toInt32)), (.int ((p1 &&& (65535 : Int32)).toUInt32.toUInt16.toUInt32.toInt32)), (.int 0), (.int 0)] (.int 0) := by
      have q := Arv.set Ar59 q59 Sz59 Nn59 Hs59 Gf59 (fits_nar_char _) W61 1 rfl (Nat.le_of_ble_eq_true rfl)
      first | exact q | (simp only [Ym] at q; exact q)
    have N61 := Fr.snoc X61 N58 g_b55
    have O61 := O58.wr W61 g_b55
    have K61 := K58.wr W61 (Or.inr s_b55)
    obtain ⟨cl62, Ar62, q62, Sz62, Nn62, Hs62, Gf62⟩ := id V61
    have hin63 : ¬ ((2 : Int32) < 0 ∨ cl62.slots.size ≤ ((2 : Int32)).toNatClampNeg) := inb_of Sz62 ⟨by decide, by decide⟩
    obtain ⟨T64, h64, X64, e64, W64, st64⟩ := stC X61 hx hZ e61 Ar62 (j := (2 : Int32)) hin63 (g := (mkF m 52 #[.val (.int p0), .val (.int p1), .val (.int p2), .val (.int p3), .val (.int p4), .val (.int 4), .val (.ref b55), .unset, .unset] [(.int ((p2 &&& (65535 : Int32)).toUInt32.toUInt16.toUInt32.toInt32)), (.int 2), (.ref b55)])) rfl rfl (hb hby at_52)
    have V64 : Arv Z h64 b55 c55 .char (4 : Int32) [(.int ((p0 &&& (65535 : Int32)).toUInt32.toUInt16.toUInt32.toInt32)), (.int ((p1 &&& (65535 : Int32)).toUInt32.toUInt16.toUInt32.toInt32)), (.int ((p2 &&& (65535 : Int32)).toUInt32.toUInt16.toUInt32.toInt32)), (.int 0)] (.int 0) := by
      have q := Arv.set Ar62 q62 Sz62 Nn62 Hs62 Gf62 (fits_nar_char _) W64 2 rfl (Nat.le_of_ble_eq_true rfl)
      first | exact q | (simp only [Ym] at q; exact q)
    have N64 := Fr.snoc X64 N61 g_b55
    have O64 := O61.wr W64 g_b55
    have K64 := K61.wr W64 (Or.inr s_b55)
    obtain ⟨cl65, Ar65, q65, Sz65, Nn65, Hs65, Gf65⟩ := id V64
    have hin66 : ¬ ((3 : Int32) < 0 ∨ cl65.slots.size ≤ ((3 : Int32)).toNatClampNeg) := inb_of Sz65 ⟨by decide, by decide⟩
    obtain ⟨T67, h67, X67, e67, W67, st67⟩ := stC X64 hx hZ e64 Ar65 (j := (3 : Int32)) hin66 (g := (mkF m 67 #[.val (.int p0), .val (.int p1), .val (.int p2), .val (.int p3), .val (.int p4), .val (.int 4), .val (.ref b55), .unset, .unset] [(.int ((p3 &&& (65535 : Int32)).toUInt32.toUInt16.toUInt32.toInt32)), (.int 3), (.ref b55)])) rfl rfl (hb hby at_67)
    have V67 : Arv Z h67 b55 c55 .char (4 : Int32) [(.int ((p0 &&& (65535 : Int32)).toUInt32.toUInt16.toUInt32.toInt32)), (.int ((p1 &&& (65535 : Int32)).toUInt32.toUInt16.toUInt32.toInt32)), (.int ((p2 &&& (65535 : Int32)).toUInt32.toUInt16.toUInt32.toInt32)), (.int ((p3 &&& (65535 : Int32)).toUInt32.toUInt16.toUInt32.toInt32))] (.int 0) := by
      have q := Arv.set Ar65 q65 Sz65 Nn65 Hs65 Gf65 (fits_nar_char _) W67 3 rfl (Nat.le_of_ble_eq_true rfl)
      first | exact q | (simp only [Ym] at q; exact q)
    have N67 := Fr.snoc X67 N64 g_b55
    have O67 := O64.wr W67 g_b55
    have K67 := K64.wr W67 (Or.inr s_b55)
    obtain ⟨T68, h68, X68, e68, E68, A68, D68, -, st68⟩ := newO X67 hx hZ hown (Da hw 2 rfl) (Da hw 3 rfl) (Da hw 4 rfl) e67 (g := (mkF m 68 #[.val (.int p0), .val (.int p1), .val (.int p2), .val (.int p3), .val (.int p4), .val (.int 4), .val (.ref b55), .unset, .unset] [])) rfl (hb hby at_68) (by decide) (by decide)
    obtain ⟨b68, g68⟩ : ∃ z, z = h67.size := ⟨_, rfl⟩
    rw [← g68] at A68 D68 st68
    have O68 := O67.ext E68
    have g_b68 : n0 ≤ b68 := Nat.le_trans (Nat.le_of_eq O67.1.symm) (Nat.le_trans O67.2.1 (Nat.le_of_eq g68.symm))
    have s_b68 : h0.size ≤ b68 := Nat.le_trans K67.1 (Nat.le_of_eq g68.symm)
    have K68 := K67.ext E68
    have lt_b68 := A68.lt
    have F68_coder : Fld Z h68 b68 "java/lang/String" "coder" "B" (.int 0) := D68 (Or.inr (Da hw 28 rfl)) (ty := .byte) (by decide)
    have F68_value : Fld Z h68 b68 "java/lang/String" "value" "[B" .null := D68 (Or.inr (Da hw 30 rfl)) (ty := (.array .byte)) (by decide)
    have k69 : ∀ t, Ga p e below m T68 74 #[.val (.int p0), .val (.int p1), .val (.int p2), .val (.int p3), .val (.int p4), .val (.int 4), .val (.ref b55), .unset, .unset] [(.ref b55), (.ref b68), (.ref b68)] t → Ra p e below m s₁ #[(.int p0), (.int p1), (.int p2), (.int p3), (.int p4)] maxLocals t := by
      intro t k
      refine k54 t ?_
      refine XS.iadd X00.here hx rfl (hb hby at_5) rfl ?_
      show Ga p e below m s₁ 6 #[.val (.int p0), .val (.int p1), .val (.int p2), .val (.int p3), .val (.int p4), .unset, .unset, .unset, .unset] [(.int ((1 : Int32) + (3 : Int32)))] t
      rw [show ((1 : Int32) + (3 : Int32)) = (4 : Int32) from by decide]
      refine XS.istore X00.here hx rfl (hb hby at_6) rfl (l' := #[.val (.int p0), .val (.int p1), .val (.int p2), .val (.int p3), .val (.int p4), .val (.int 4), .unset, .unset, .unset]) rfl ?_
      refine XS.iload X00.here hx rfl (hb hby at_8) rfl ?_
      refine st55 _ ?_
      refine XS.astore X55.here hx rfl (hb hby at_12) rfl rfl (l' := #[.val (.int p0), .val (.int p1), .val (.int p2), .val (.int p3), .val (.int p4), .val (.int 4), .val (.ref b55), .unset, .unset]) rfl ?_
      refine XS.aload X55.here hx rfl (hb hby at_14) rfl rfl ?_
      refine XS.iconst X55.here hx rfl (hb hby at_16) ?_
      show Ga p e below m T55 17 #[.val (.int p0), .val (.int p1), .val (.int p2), .val (.int p3), .val (.int p4), .val (.int 4), .val (.ref b55), .unset, .unset] [(.int 0), (.ref b55)] t
      refine XS.iloadN X55.here hx rfl (hb hby at_17) rfl ?_
      refine X55.ldcI hx hown (mvT hZ (Da hw 1 rfl)) rfl (hb hby at_18) ?_
      refine XS.iand X55.here hx rfl (hb hby at_20) rfl ?_
      refine XS.i2c X55.here hx rfl (hb hby at_21) rfl ?_
      refine st58 _ ?_
      refine XS.iload X58.here hx rfl (hb hby at_23) rfl ?_
      refine XS.iconst X58.here hx rfl (hb hby at_25) ?_
      refine XS.icmpNo X58.here hx rfl (hb hby at_26) rfl (tlt (by decide : (1 : Int32) < (4 : Int32))).2.2.2 ?_
      show Ga p e below m T58 29 #[.val (.int p0), .val (.int p1), .val (.int p2), .val (.int p3), .val (.int p4), .val (.int 4), .val (.ref b55), .unset, .unset] [] t
      refine XS.aload X58.here hx rfl (hb hby at_29) rfl rfl ?_
      refine XS.iconst X58.here hx rfl (hb hby at_31) ?_
      refine XS.iloadN X58.here hx rfl (hb hby at_32) rfl ?_
      refine X58.ldcI hx hown (mvT hZ (Da hw 1 rfl)) rfl (hb hby at_33) ?_
      refine XS.iand X58.here hx rfl (hb hby at_35) rfl ?_
      refine XS.i2c X58.here hx rfl (hb hby at_36) rfl ?_
      refine st61 _ ?_
      refine XS.iload X61.here hx rfl (hb hby at_38) rfl ?_
      show Ga p e below m T61 40 #[.val (.int p0), .val (.int p1), .val (.int p2), .val (.int p3), .val (.int p4), .val (.int 4), .val (.ref b55), .unset, .unset] [(.int 4)] t
      refine XS.iconst X61.here hx rfl (hb hby at_40) ?_
      refine XS.icmpNo X61.here hx rfl (hb hby at_41) rfl (tlt (by decide : (2 : Int32) < (4 : Int32))).2.2.2 ?_
      refine XS.aload X61.here hx rfl (hb hby at_44) rfl rfl ?_
      refine XS.iconst X61.here hx rfl (hb hby at_46) ?_
      refine XS.iloadN X61.here hx rfl (hb hby at_47) rfl ?_
      refine X61.ldcI hx hown (mvT hZ (Da hw 1 rfl)) rfl (hb hby at_48) ?_
      refine XS.iand X61.here hx rfl (hb hby at_50) rfl ?_
      refine XS.i2c X61.here hx rfl (hb hby at_51) rfl ?_
      show Ga p e below m T61 52 #[.val (.int p0), .val (.int p1), .val (.int p2), .val (.int p3), .val (.int p4), .val (.int 4), .val (.ref b55), .unset, .unset] [(.int ((p2 &&& (65535 : Int32)).toUInt32.toUInt16.toUInt32.toInt32)), (.int 2), (.ref b55)] t
      refine st64 _ ?_
      refine XS.iload X64.here hx rfl (hb hby at_53) rfl ?_
      refine XS.iconst X64.here hx rfl (hb hby at_55) ?_
      refine XS.icmpNo X64.here hx rfl (hb hby at_56) rfl (tlt (by decide : (3 : Int32) < (4 : Int32))).2.2.2 ?_
      refine XS.aload X64.here hx rfl (hb hby at_59) rfl rfl ?_
      refine XS.iconst X64.here hx rfl (hb hby at_61) ?_
      refine XS.iloadN X64.here hx rfl (hb hby at_62) rfl ?_
      refine X64.ldcI hx hown (mvT hZ (Da hw 1 rfl)) rfl (hb hby at_63) ?_
      show Ga p e below m T64 65 #[.val (.int p0), .val (.int p1), .val (.int p2), .val (.int p3), .val (.int p4), .val (.int 4), .val (.ref b55), .unset, .unset] [(.int 65535), (.int p3), (.int 3), (.ref b55)] t
      refine XS.iand X64.here hx rfl (hb hby at_65) rfl ?_
      refine XS.i2c X64.here hx rfl (hb hby at_66) rfl ?_
      refine st67 _ ?_
      refine st68 _ ?_
      refine XS.dup X68.here hx rfl (hb hby at_71) rfl rfl ?_
      refine XS.aload X68.here hx rfl (hb hby at_72) rfl rfl ?_
      exact k
    have f70 := (V67.ext E68)
    obtain ⟨_, _, ⟨T71, L71, k71, n71⟩, -, X71, ⟨Lc71, hQ71, l71, y71, z71⟩, st71⟩ := X68.specialBack hx (y := Wm) rfl hown (mvT hZ (Da hw 5 rfl)) (mvT hZ (Da hw 6 rfl)) (mvT hZ (Da hw 7 rfl)) (by decide) (backOf (W := 1) (Hz l Z a0 hw [] b68 b55 c55 ((p0 &&& (65535 : Int32)).toUInt32.toUInt16.toUInt32.toInt32) ((p1 &&& (65535 : Int32)).toUInt32.toUInt16.toUInt32.toInt32) ((p2 &&& (65535 : Int32)).toUInt32.toUInt16.toUInt32.toInt32) ((p3 &&& (65535 : Int32)).toUInt32.toUInt16.toUInt32.toInt32) _ _ h68 n0 O68 hE f70 A68 F68_value F68_coder g_b68 (Zm _) (Bn _) (Zm _) (Bn _) (Zm _) (Bn _) (Zm _) (Bn _)) hZ (Da hw 7 rfl) (Da hw 4 rfl) (by decide) (by decide)) (g := (mkF m 74 #[.val (.int p0), .val (.int p1), .val (.int p2), .val (.int p3), .val (.int p4), .val (.int 4), .val (.ref b55), .unset, .unset] [(.ref b55), (.ref b68), (.ref b68)])) rfl (by rw [hml]; rfl) (Steps.refl _) (a := b68) (argsL := [(.ref b55)]) (rest := [(.ref b68)]) (lenOf Dp rfl) rfl (by show 2 * 0 + _ ≤ _; exact Nat.le_of_eq rfl) (hb hby at_74) (fun _ _ => ⟨rfl, e68, (by decide : 2 + 2 ≤ _), (by decide : 8 + 12 ≤ _)⟩)
    dsimp only [Pt.U, Pt.locs, Pt.cells, Pt.slots] at X71 l71 y71 z71 st71 hQ71
    subst l71 y71 z71
    obtain ⟨b71, z71, k71, vs71, rfl, N71q, O71, Kc71, g_b71, gs_b71, F71_0, F71_1, F71_2, D71_0⟩ := hQ71
    have N71 := Fr.app N67 N71q
    have K71 := K68.trans Kc71 (allS (Or.inr s_b68) all0)
    have s_b71 := Nat.le_trans K68.1 gs_b71
    have lt_b71 := F71_2.lt
    obtain ⟨_, _, ⟨T72, L72, k72, n72⟩, -, X72, hS72, hg72, ⟨Lc72, hQ72, l72, y72, z72⟩, st72⟩ := callSS X71 hx (y := Ko) hown (mvT hZ (Da hw 31 rfl)) (mvT hZ (Da hw 32 rfl)) (mvT hZ (Da hw 33 rfl)) (mvT hZ (Da hw 34 rfl)) (by decide) (backOfS (W := 0) (Gq l Z a0 hw [] b68 b71 z71 k71 vs71 _ _ T71.heap n0 O71 hE F71_0 F71_1 F71_2 D71_0) hZ (Da hw 34 rfl) (Da hw 33 rfl) (by decide) (by decide)) (g := (mkF m 81 #[.val (.int p0), .val (.int p1), .val (.int p2), .val (.int p3), .val (.int p4), .val (.int 4), .val (.ref b55), .val (.ref b68), .unset] [(.ref b68)])) rfl (by rw [hml]; rfl) (argsL := [(.ref b68)]) (rest := []) (lenOf Ai rfl) rfl (by show 2 * 0 + _ ≤ _; exact Nat.le_of_eq rfl) (hb hby at_81) (fun _ _ => ⟨rfl, rfl, (by decide : 4 + 2 ≤ _), (by decide : 20 + 20 ≤ _)⟩)
    dsimp only [Pt.U, Pt.locs, Pt.cells, Pt.slots] at X72 l72 y72 z72 st72 hQ72 hS72 hg72
    subst l72 y72 z72
    obtain ⟨X72, hS, hZ, hown⟩ := rebS hS (by exact (Nat.le_trans (Nat.le_trans (Nat.le_trans (Nat.le_trans (Nat.le_trans (Nat.le_trans (Nat.le_trans (Nat.zero_le _) E55.1) (Keep.of_wr W58).1) (Keep.of_wr W61).1) (Keep.of_wr W64).1) (Keep.of_wr W67).1) E68.1) Kc71.1)) X72 hS72 hg72 hZ hown
    obtain ⟨rfl, N72q, O72, Kc72⟩ := hQ72
    have N72 := Fr.app N71 N72q
    have K72 := K71.trans Kc72 (fun x hx => nomatch hx)
    have k73 : ∀ t, Ga p e below m T72 98 #[.val (.int p0), .val (.int p1), .val (.int p2), .val (.int p3), .val (.int p4), .val (.int 4), .val (.ref b55), .val (.ref b68), .val (.ref b68)] [(.int 1)] t → Ra p e below m s₁ #[(.int p0), (.int p1), (.int p2), (.int p3), (.int p4)] maxLocals t := by
      intro t k
      refine k69 t ?_
      refine st71.trans ?_
      refine XS.astore X71.here hx rfl (hb hby at_77) rfl rfl (l' := #[.val (.int p0), .val (.int p1), .val (.int p2), .val (.int p3), .val (.int p4), .val (.int 4), .val (.ref b55), .val (.ref b68), .unset]) rfl ?_
      refine XS.aload X71.here hx rfl (hb hby at_79) rfl rfl ?_
      refine st72.trans ?_
      refine XS.astore X72.here hx rfl (hb hby at_84) rfl rfl (l' := #[.val (.int p0), .val (.int p1), .val (.int p2), .val (.int p3), .val (.int p4), .val (.int 4), .val (.ref b55), .val (.ref b68), .val (.ref b68)]) rfl ?_
      refine XS.aload X72.here hx rfl (hb hby at_86) rfl rfl ?_
      refine XS.aload X72.here hx rfl (hb hby at_88) rfl rfl ?_
      refine Jvm.RoadKit.acmp (g := (mkF m 90 #[.val (.int p0), .val (.int p1), .val (.int p2), .val (.int p3), .val (.int p4), .val (.int 4), .val (.ref b55), .val (.ref b68), .val (.ref b68)] [(.ref b68), (.ref b68)])) X72 hx rfl rfl rfl (pc0 := 90) (pc' := 93) (same := true) rfl (hb hby at_90) rfl (decide_eq_true rfl) (by decide) (by decide) ?_
      show Ga p e below m T72 93 #[.val (.int p0), .val (.int p1), .val (.int p2), .val (.int p3), .val (.int p4), .val (.int 4), .val (.ref b55), .val (.ref b68), .val (.ref b68)] [] t
      refine XS.iconst X72.here hx rfl (hb hby at_93) ?_
      refine XS.goto X72.here hx rfl (pc0 := 94) (pc' := 98) rfl (hb hby at_94) (by decide) (by decide) ?_
      exact k
    obtain ⟨fs, hr, hrun, hended, hRW⟩ := X72.leaveW hS (by exact (Nat.le_refl _)) (v := some (.int 1)) (fun h => by rw [Bd.returns] at h; cases h)
    refine hNG ⟨_, _, k73 _ ?_, hrun, hended, _, _, rfl, ?_, hRW.1, hRW.2.1, hRW.2.2.1, hRW.2.2.2.mono (by decide) (by decide)⟩
    · exact retN X72 hx (t := .boolean) Bd.returns (by simp) (hb hby at_98) hr
    · show Up Z p0 p1 p2 p3 p4 Ba Aa h0 n0 _ T72.heap _
      exact ⟨rfl, N72⟩
set_option maxRecDepth 65536 in
set_option maxHeartbeats 40000000 in
theorem comes_1 {Post : Tables → Env → Array Value → State → Outcome → State → Prop} (hpost : ∀ tb e args s v u, (limb_1_1.after args s (.returned v) u = true ∧ limb_1_2.after args s (.returned v) u = true ∧ True) → ReturnedEndW s (.returned v) u (Jvm.fieldLocs frame_1_writes args s ++ Jvm.arrayLocs frame_1_arrays args s ++ Jvm.staticLocs frame_1_statics s) 24 1152 → Post tb e args s (.returned v) u) :
    ArmFor flags0 classFile x code maxLocals ret World_1 tables_1 room_1 Calls_1 rest_1 Pre_1 Post := by
  intro l hfl _ _ p e ha hc hk s m args below hf hA hF happ hP
  obtain ⟨hcalls, hrest, hpre⟩ := hP
  obtain ⟨-, -, -, hnamed, -, -, -, hat⟩ := (Spec.applies_iff hf).mp happ
  obtain ⟨hg, hn⟩ := and_e (Cond.before_iff.mp (show (Jvm.Cond.and given_1 narrow_1).before args s = true from hpre))
  obtain ⟨g0a, g0b⟩ := and_e hg
  obtain ⟨g1a, g1b⟩ := and_e g0b
  obtain ⟨g2a, g2b⟩ := and_e g1b
  obtain ⟨g3a, g3b⟩ := and_e g2b
  obtain ⟨g4a, g4b⟩ := and_e g3b
  obtain ⟨w0, w1, w2, w3, w4, rfl⟩ : ∃ w0 w1 w2 w3 w4 : Value, args = #[w0, w1, w2, w3, w4] := by
    have hs : args.size = 5 := by simpa [Cond.value, given_1] using g0a
    obtain ⟨L⟩ := args
    match L, hs with
    | [w0, w1, w2, w3, w4], _ => exact ⟨w0, w1, w2, w3, w4, rfl⟩
  have hw := fun d (hd : d ∈ tables_1) => atoms_spec (ws := Jvm.Cond.code x code maxLocals ret :: tables_1) hat d (List.mem_cons_of_mem _ hd)
  have hfit : Fit s := fun {y c} hc i hi => by
    obtain ⟨ha, rfl⟩ := Array.getElem?_eq_some_iff.mp hc
    have q := List.all_eq_true.mp ((Array.all_eq_true_iff_forall_mem.mp hF) _ (Array.getElem_mem ha)) i (List.mem_range.mpr hi)
    simpa [Array.getElem?_eq_getElem hi] using q
  obtain ⟨hsets, hown0⟩ := atoms_of _ (rest_1_c_eq ▸ (show rest_1_c.before _ s = true from hrest))
  obtain ⟨i0, ei0⟩ := is_v g1a
  obtain rfl : w0 = (.int i0) := Option.some.inj ei0
  obtain ⟨i1, ei1⟩ := is_v g2a
  obtain rfl : w1 = (.int i1) := Option.some.inj ei1
  obtain ⟨i2, ei2⟩ := is_v g3a
  obtain rfl : w2 = (.int i2) := Option.some.inj ei2
  obtain ⟨i3, ei3⟩ := is_v g4a
  obtain rfl : w3 = (.int i3) := Option.some.inj ei3
  obtain ⟨i4, ei4⟩ := is_v g4b
  obtain rfl : w4 = (.int i4) := Option.some.inj ei4
  obtain ⟨Ba, Gn⟩ := is_v (Cond.before_iff.mp (hsets _ (List.mem_of_getElem? (i := 1) rfl)))
  have Ua := Sta.start Gn (Or.inl (hsets _ (List.mem_of_getElem? (i := 0) rfl)))
  have La := Kz Gn (Cond.before_iff.mp (hsets _ (List.mem_of_getElem? (i := 2) rfl)))
  obtain ⟨Aa, Gp, Hp⟩ := isR_v (Cond.before_iff.mp (hsets _ (List.mem_of_getElem? (i := 8) rfl)))
  have Va := Sta.start Gp (Or.inl (hsets _ (List.mem_of_getElem? (i := 7) rfl)))
  have Ma := Hp
  have Ha := Sta.start (Ip (Cond.before_iff.mp (hsets _ (List.mem_of_getElem? (i := 12) rfl)))) (Or.inr ⟨(Da hw 18 rfl), hsets _ (List.mem_of_getElem? (i := 10) rfl)⟩)
  have Ia := Sta.start (Ip (Cond.before_iff.mp (hsets _ (List.mem_of_getElem? (i := 15) rfl)))) (Or.inr ⟨(Da hw 18 rfl), hsets _ (List.mem_of_getElem? (i := 13) rfl)⟩)
  have Ka := Sta.start (Ip (Cond.before_iff.mp (hsets _ (List.mem_of_getElem? (i := 18) rfl)))) (Or.inr ⟨(Da hw 18 rfl), hsets _ (List.mem_of_getElem? (i := 16) rfl)⟩)
  obtain ⟨n, o, h1, h2, h3, _, L, rfl, ⟨rfl, N⟩, hq⟩ := rm_law l s _ hw tables_1 i0 i1 i2 i3 i4 Ba Aa s.heap s.heap.size (Old.start s) ⟨Ua, La, Va, Ma, Ha, Ia, Ka⟩  p e ha hc hk s m _ below hf ((Spec.applies_iff_loose hf).mp happ).1 ⟨rfl, State.Warmed39.refl s, rfl⟩ trivial
  refine ⟨n, _, h1, h2, h3, hpost _ _ _ _ _ _ ⟨Cond.after_iff.mpr rfl, Cond.after_iff.mpr (eq_i res_at (Term.int_eval (1)) rfl), trivial⟩ ⟨hq.1, hq.2.1, hq.2.2.1, (hq.2.2.2.sift fun y hy => Or.inr (N y hy)).mono (by decide) (by decide)⟩⟩
theorem main_1_1 : Claimed_1_1 := comes_1 fun _ _ _ _ _ _ h hF => ⟨h.1, hF⟩
theorem main_1_2 : Claimed_1_2 := comes_1 fun _ _ _ _ _ _ h hF => ⟨h.2.1, hF⟩
end Jvm.Pilot.@@N@@
namespace Jvm.Pilot.@@N@@
open Jvm Jvm.ClassFile Sem Op Lib Jvm.Free Jvm.Stand Jvm.Pilot.@@N@@.Jvm.D
/-! MADE BY PROGRAM (witnessworld.py) out of the Statement's table words and the real class files: 21 classes; the members and pool entries that the words name. The judged class is class 1, her method 1. -/
namespace start1
open Jvm.ClassFile
def u (s : String) : CpInfo := .utf8 (stringToUtf16 s)
/-- a pool by its gaps: so many unusable entries, then the entry; so many at the end -/
def gap : Nat → List CpInfo → List CpInfo
  | 0, r => r
  | n + 1, r => .unusable :: gap n r
def poolList (es : List (Nat × CpInfo)) (last : Nat) : List CpInfo := es.foldr (fun e r => gap e.1 (e.2 :: r)) (gap last [])
def pool (es : List (Nat × CpInfo)) (last : Nat) : Array CpInfo := ⟨poolList es last⟩
def fileOf (pool : Array CpInfo) (this : Nat) (attrs : Array Attribute := #[]) (ms : Array MethodInfo := #[]) (fl : Nat := 33) (sup : Nat := 0) (ifs : Array Nat := #[]) (fds : Array FieldInfo := #[]) : ClassFile where
  minorVersion := 0
  majorVersion := 65
  constantPool := pool
  accessFlags := fl
  thisClass := this
  superClass := sup
  interfaces := ifs
  fields := fds
  methods := ms
  attributes := attrs
def plain (name : String) (sup : Option ClassId) : Class where
  name := name
  kind := .ordinary
  loader := none
  accessFlags := 33
  super := sup
  interfaces := #[]
  cf := none
  fields := #[]
  methods := #[]
  instanceTypes := #[]
  staticTypes := #[]
  resolved := #[]
  callSites := []
  init := .initialized
  statics := none
  mirror := none

def pool0 : Array CpInfo := pool [(5, u "<init>"), (0, u "()V"), (1, .class_ 10), (1, u "java/lang/Object")] 113

def k0c0 : Code := { maxStack := 0, maxLocals := 1, code := object_method_1_code, exceptionTable := #[], attributes := #[] }
def k0m0 : Method := { name := "<init>", desc := "()V", sig := { parameters := [], returnType := none }, accessFlags := 1, code := some k0c0 }
/-- java/lang/Object -/
def k0 : Class := { plain "java/lang/Object" none with
  accessFlags := 33
  interfaces := #[]
  cf := some (fileOf pool0 8 #[] #[{ accessFlags := 1, nameIndex := 5, descriptorIndex := 6, attributes := #[] }] 33 0 #[] #[])
  fields := #[]
  methods := #[k0m0]
  instanceTypes := #[]
  staticTypes := #[]
  resolved := Array.replicate 124 none
  statics := none }

def pool1 : Array CpInfo := pool [(2, .class_ 4), (1, u "java/lang/Object"), (0, u "<init>"), (0, u "()V"), (0, .integer 65535), (0, .class_ 9), (0, u "java/lang/String"), (0, .methodref 8 11), (0, .nameAndType 5 12), (0, u "([C)V"), (0, .methodref 14 15), (0, .class_ 16), (0, .nameAndType 17 18), (0, u "com/example/plus1/plus1/LockArguments"), (0, u "checkName"), (0, u "(Ljava/lang/String;)Ljava/lang/String;"), (0, .class_ 20), (0, u "com/example/plus1/plus1/LockArgumentsCheckNamePinLaw"), (2, u "law"), (0, u "(IIIII)Z")] 5

def k1m0 : Method := { name := "<init>", desc := "()V", sig := { parameters := [], returnType := none }, accessFlags := 2, code := none }
def k1c1 : Code := { maxStack := 4, maxLocals := 9, code := code, exceptionTable := #[], attributes := #[] }
def k1m1 : Method := { name := "law", desc := "(IIIII)Z", sig := { parameters := [.int, .int, .int, .int, .int], returnType := some .boolean }, accessFlags := 9, code := some k1c1 }
/-- com/example/plus1/plus1/LockArgumentsCheckNamePinLaw -/
def k1 : Class := { plain "com/example/plus1/plus1/LockArgumentsCheckNamePinLaw" (some 0) with
  accessFlags := 49
  interfaces := #[]
  cf := some (fileOf pool1 19 #[] #[{ accessFlags := 2, nameIndex := 5, descriptorIndex := 6, attributes := #[] }, { accessFlags := 9, nameIndex := 23, descriptorIndex := 24, attributes := #[] }] 49 2 #[] #[])
  fields := #[]
  methods := #[k1m0, k1m1]
  instanceTypes := #[]
  staticTypes := #[]
  resolved := Array.replicate 30 none
  statics := none }

def pool2 : Array CpInfo := pool [(1, .class_ 2), (0, u "java/io/Serializable"), (0, .class_ 4), (0, u "java/lang/Object")] 2

/-- java/io/Serializable -/
def k2 : Class := { plain "java/io/Serializable" (some 0) with
  accessFlags := 1537
  interfaces := #[]
  cf := some (fileOf pool2 1 #[] #[] 1537 3 #[] #[])
  fields := #[]
  methods := #[]
  instanceTypes := #[]
  staticTypes := #[]
  resolved := Array.replicate 7 none
  statics := none }

def pool3 : Array CpInfo := pool [(1, .class_ 2), (0, u "java/lang/Comparable"), (0, .class_ 4), (0, u "java/lang/Object")] 7

/-- java/lang/Comparable -/
def k3 : Class := { plain "java/lang/Comparable" (some 0) with
  accessFlags := 1537
  interfaces := #[]
  cf := some (fileOf pool3 1 #[] #[] 1537 3 #[] #[])
  fields := #[]
  methods := #[]
  instanceTypes := #[]
  staticTypes := #[]
  resolved := Array.replicate 12 none
  statics := none }

def pool4 : Array CpInfo := pool [(2, .class_ 4), (1, u "java/lang/CharSequence"), (42, .class_ 48), (0, u "java/lang/CharSequence$1CodePointIterator"), (10, .class_ 60), (0, u "java/lang/CharSequence$1CharIterator"), (5, .class_ 67), (0, u "java/lang/Object")] 63

/-- java/lang/CharSequence -/
def k4 : Class := { plain "java/lang/CharSequence" (some 0) with
  accessFlags := 1537
  interfaces := #[]
  cf := some (fileOf pool4 2 #[.nestMembers #[47, 59]] #[] 1537 66 #[] #[])
  fields := #[]
  methods := #[]
  instanceTypes := #[]
  staticTypes := #[]
  resolved := Array.replicate 131 none
  statics := none }

def pool5 : Array CpInfo := pool [(1, .class_ 2), (0, u "java/lang/constant/Constable"), (0, .class_ 4), (0, u "java/lang/Object")] 6

/-- java/lang/constant/Constable -/
def k5 : Class := { plain "java/lang/constant/Constable" (some 0) with
  accessFlags := 1537
  interfaces := #[]
  cf := some (fileOf pool5 1 #[] #[] 1537 3 #[] #[])
  fields := #[]
  methods := #[]
  instanceTypes := #[]
  staticTypes := #[]
  resolved := Array.replicate 11 none
  statics := none }

def pool6 : Array CpInfo := pool [(1, .class_ 2), (0, u "java/lang/constant/ConstantDesc"), (0, .class_ 4), (0, u "java/lang/Object")] 32

/-- java/lang/constant/ConstantDesc -/
def k6 : Class := { plain "java/lang/constant/ConstantDesc" (some 0) with
  accessFlags := 1537
  interfaces := #[]
  cf := some (fileOf pool6 1 #[] #[] 1537 3 #[] #[])
  fields := #[]
  methods := #[]
  instanceTypes := #[]
  staticTypes := #[]
  resolved := Array.replicate 37 none
  statics := none }

def pool7 : Array CpInfo := pool [(1, .methodref 2 3), (0, .class_ 4), (0, .nameAndType 5 6), (0, u "java/lang/Object"), (0, u "<init>"), (0, u "()V"), (2, .fieldref 10 11), (0, .class_ 12), (0, .nameAndType 13 14), (0, u "java/lang/String"), (0, u "value"), (0, u "[B"), (0, .fieldref 10 16), (0, .nameAndType 17 18), (0, u "coder"), (0, u "B"), (2, u "hash"), (0, u "I"), (2, u "hashIsZero"), (0, u "Z"), (0, .methodref 10 28), (0, .nameAndType 5 29), (0, u "([CIILjava/lang/Void;)V"), (8, .fieldref 10 39), (0, .nameAndType 40 26), (0, u "COMPACT_STRINGS"), (1, .class_ 44), (1, u "java/lang/StringUTF16"), (0, u "compress"), (1, .methodref 42 48), (0, .nameAndType 49 50), (0, u "coderFromArrayLen"), (0, u "([BI)B"), (91, u "()Z"), (34, .methodref 42 178), (0, .nameAndType 45 179), (0, u "([CII)[B"), (395, .class_ 576), (0, u "java/lang/CharSequence"), (22, u "CASE_INSENSITIVE_ORDER"), (0, u "Ljava/util/Comparator;"), (91, u "isEmpty"), (317, u "([C)V"), (90, u "serialPersistentFields"), (0, u "[Ljava/io/ObjectStreamField;"), (0, .class_ 1104), (0, u "java/lang/String$CaseInsensitiveComparator"), (1, .class_ 1107), (0, u "java/io/Serializable"), (0, .class_ 1109), (0, u "java/lang/Comparable"), (0, .class_ 1111), (0, u "java/lang/constant/Constable"), (0, .class_ 1113), (0, u "java/lang/constant/ConstantDesc"), (2, u "serialVersionUID"), (0, u "J"), (3, u "REPL"), (0, u "C"), (2, u "LATIN1"), (1, u "UTF16")] 323

def k7m0 : Method := { name := "<init>", desc := "()V", sig := { parameters := [], returnType := none }, accessFlags := 1, code := none }
def k7c1 : Code := { maxStack := 5, maxLocals := 2, code := jdk_42_method_3_code, exceptionTable := #[], attributes := #[] }
def k7m1 : Method := { name := "<init>", desc := "([C)V", sig := { parameters := [(.array .char)], returnType := none }, accessFlags := 1, code := some k7c1 }
def k7c2 : Code := { maxStack := 1, maxLocals := 1, code := jdk_42_method_55_code, exceptionTable := #[], attributes := #[] }
def k7m2 : Method := { name := "isEmpty", desc := "()Z", sig := { parameters := [], returnType := some .boolean }, accessFlags := 1, code := some k7c2 }
def k7c3 : Code := { maxStack := 4, maxLocals := 6, code := jdk_42_method_149_code, exceptionTable := #[], attributes := #[] }
def k7m3 : Method := { name := "<init>", desc := "([CIILjava/lang/Void;)V", sig := { parameters := [(.array .char), .int, .int, (.object "java/lang/Void")], returnType := none }, accessFlags := 2, code := some k7c3 }
/-- java/lang/String -/
def k7 : Class := { plain "java/lang/String" (some 0) with
  accessFlags := 49
  interfaces := #[2, 3, 4, 5, 6]
  cf := some (fileOf pool7 10 #[.nestMembers #[1103]] #[{ accessFlags := 1, nameIndex := 5, descriptorIndex := 6, attributes := #[] }, { accessFlags := 1, nameIndex := 5, descriptorIndex := 1010, attributes := #[] }, { accessFlags := 1, nameIndex := 692, descriptorIndex := 142, attributes := #[] }, { accessFlags := 2, nameIndex := 5, descriptorIndex := 29, attributes := #[] }] 49 2 #[1106, 1108, 575, 1110, 1112] #[{ accessFlags := 18, nameIndex := 13, descriptorIndex := 14, attributes := #[] }, { accessFlags := 18, nameIndex := 17, descriptorIndex := 18, attributes := #[] }, { accessFlags := 2, nameIndex := 21, descriptorIndex := 22, attributes := #[] }, { accessFlags := 2, nameIndex := 25, descriptorIndex := 26, attributes := #[] }, { accessFlags := 26, nameIndex := 1116, descriptorIndex := 1117, attributes := #[] }, { accessFlags := 24, nameIndex := 40, descriptorIndex := 26, attributes := #[] }, { accessFlags := 26, nameIndex := 1101, descriptorIndex := 1102, attributes := #[] }, { accessFlags := 26, nameIndex := 1121, descriptorIndex := 1122, attributes := #[] }, { accessFlags := 25, nameIndex := 599, descriptorIndex := 600, attributes := #[] }, { accessFlags := 24, nameIndex := 1125, descriptorIndex := 18, attributes := #[] }, { accessFlags := 24, nameIndex := 1127, descriptorIndex := 18, attributes := #[] }])
  fields := #[{ name := "value", type := (.array .byte), accessFlags := 18, slot := 0, constantValue := 0 }, { name := "coder", type := .byte, accessFlags := 18, slot := 1, constantValue := 0 }, { name := "hash", type := .int, accessFlags := 2, slot := 2, constantValue := 0 }, { name := "hashIsZero", type := .boolean, accessFlags := 2, slot := 3, constantValue := 0 }, { name := "serialVersionUID", type := .long, accessFlags := 26, slot := 0, constantValue := 0 }, { name := "COMPACT_STRINGS", type := .boolean, accessFlags := 24, slot := 1, constantValue := 0 }, { name := "serialPersistentFields", type := (.array (.object "java/io/ObjectStreamField")), accessFlags := 26, slot := 2, constantValue := 0 }, { name := "REPL", type := .char, accessFlags := 26, slot := 3, constantValue := 0 }, { name := "CASE_INSENSITIVE_ORDER", type := (.object "java/util/Comparator"), accessFlags := 25, slot := 4, constantValue := 0 }, { name := "LATIN1", type := .byte, accessFlags := 24, slot := 5, constantValue := 0 }, { name := "UTF16", type := .byte, accessFlags := 24, slot := 6, constantValue := 0 }]
  methods := #[k7m0, k7m1, k7m2, k7m3]
  instanceTypes := #[(.array .byte), .byte, .int, .boolean]
  staticTypes := #[.long, .boolean, (.array (.object "java/io/ObjectStreamField")), .char, (.object "java/util/Comparator"), .byte, .byte]
  resolved := Array.replicate 1451 none
  statics := some 0 }

def pool8 : Array CpInfo := pool [(6, .class_ 8), (1, u "java/lang/Object"), (0, u "<init>"), (0, u "()V"), (0, .methodref 12 13), (0, .class_ 14), (0, .nameAndType 15 16), (0, u "java/lang/StringUTF16"), (0, u "newBytesLength"), (0, u "(I)I"), (3, .integer 1073741823), (23, .fieldref 12 45), (0, .nameAndType 46 47), (0, u "$assertionsDisabled"), (0, u "Z"), (11, .fieldref 12 60), (0, .nameAndType 61 62), (0, u "HI_BYTE_SHIFT"), (0, u "I"), (0, .fieldref 12 64), (0, .nameAndType 65 62), (0, u "LO_BYTE_SHIFT"), (5, .methodref 12 72), (0, .nameAndType 73 74), (0, u "getChar"), (0, u "([BI)C"), (32, .methodref 12 108), (0, .nameAndType 109 110), (0, u "newBytesFor"), (0, u "(I)[B"), (0, .methodref 12 112), (0, .nameAndType 113 114), (0, u "putChar"), (0, u "([BII)V"), (0, .methodref 12 116), (0, .nameAndType 117 118), (0, u "compress"), (0, u "([CI[BII)I"), (0, .methodref 12 120), (0, .nameAndType 121 122), (0, u "toBytes"), (0, u "([CII)[B"), (138, u "coderFromArrayLen"), (0, u "([BI)B"), (106, .class_ 371), (1, u "java/lang/StringUTF16$LinesSpliterator"), (58, u "MAX_LENGTH"), (196, .class_ 628), (0, u "java/lang/StringUTF16$CodePointsSpliterator"), (0, .class_ 630), (0, u "java/lang/StringUTF16$CharsSpliterator")] 4

def k8m0 : Method := { name := "<init>", desc := "()V", sig := { parameters := [], returnType := none }, accessFlags := 0, code := none }
def k8c1 : Code := { maxStack := 1, maxLocals := 1, code := jdk_52_method_2_code, exceptionTable := #[], attributes := #[] }
def k8m1 : Method := { name := "newBytesFor", desc := "(I)[B", sig := { parameters := [.int], returnType := some (.array .byte) }, accessFlags := 9, code := some k8c1 }
def k8c2 : Code := { maxStack := 4, maxLocals := 1, code := jdk_52_method_3_code, exceptionTable := #[], attributes := #[] }
def k8m2 : Method := { name := "newBytesLength", desc := "(I)I", sig := { parameters := [.int], returnType := some .int }, accessFlags := 9, code := some k8c2 }
def k8c3 : Code := { maxStack := 4, maxLocals := 3, code := jdk_52_method_4_code, exceptionTable := #[], attributes := #[] }
def k8m3 : Method := { name := "putChar", desc := "([BII)V", sig := { parameters := [(.array .byte), .int, .int], returnType := none }, accessFlags := 8, code := some k8c3 }
def k8c4 : Code := { maxStack := 3, maxLocals := 2, code := jdk_52_method_5_code, exceptionTable := #[], attributes := #[] }
def k8m4 : Method := { name := "getChar", desc := "([BI)C", sig := { parameters := [(.array .byte), .int], returnType := some .char }, accessFlags := 8, code := some k8c4 }
def k8c5 : Code := { maxStack := 4, maxLocals := 5, code := jdk_52_method_14_code, exceptionTable := #[], attributes := #[] }
def k8m5 : Method := { name := "toBytes", desc := "([CII)[B", sig := { parameters := [(.array .char), .int, .int], returnType := some (.array .byte) }, accessFlags := 9, code := some k8c5 }
def k8c6 : Code := { maxStack := 2, maxLocals := 2, code := jdk_52_method_15_code, exceptionTable := #[], attributes := #[] }
def k8m6 : Method := { name := "coderFromArrayLen", desc := "([BI)B", sig := { parameters := [(.array .byte), .int], returnType := some .byte }, accessFlags := 8, code := some k8c6 }
def k8c7 : Code := { maxStack := 5, maxLocals := 6, code := jdk_52_method_16_code, exceptionTable := #[], attributes := #[] }
def k8m7 : Method := { name := "compress", desc := "([CII)[B", sig := { parameters := [(.array .char), .int, .int], returnType := some (.array .byte) }, accessFlags := 9, code := some k8c7 }
def k8c8 : Code := { maxStack := 3, maxLocals := 7, code := jdk_52_method_21_code, exceptionTable := #[], attributes := #[] }
def k8m8 : Method := { name := "compress", desc := "([CI[BII)I", sig := { parameters := [(.array .char), .int, (.array .byte), .int, .int], returnType := some .int }, accessFlags := 9, code := some k8c8 }
/-- java/lang/StringUTF16 -/
def k8 : Class := { plain "java/lang/StringUTF16" (some 0) with
  accessFlags := 48
  interfaces := #[]
  cf := some (fileOf pool8 12 #[.nestMembers #[627, 629, 369]] #[{ accessFlags := 0, nameIndex := 9, descriptorIndex := 10, attributes := #[] }, { accessFlags := 9, nameIndex := 109, descriptorIndex := 110, attributes := #[] }, { accessFlags := 9, nameIndex := 15, descriptorIndex := 16, attributes := #[] }, { accessFlags := 8, nameIndex := 113, descriptorIndex := 114, attributes := #[] }, { accessFlags := 8, nameIndex := 73, descriptorIndex := 74, attributes := #[] }, { accessFlags := 9, nameIndex := 121, descriptorIndex := 122, attributes := #[] }, { accessFlags := 8, nameIndex := 261, descriptorIndex := 262, attributes := #[] }, { accessFlags := 9, nameIndex := 117, descriptorIndex := 122, attributes := #[] }, { accessFlags := 9, nameIndex := 117, descriptorIndex := 118, attributes := #[] }] 48 6 #[] #[{ accessFlags := 26, nameIndex := 61, descriptorIndex := 62, attributes := #[] }, { accessFlags := 26, nameIndex := 65, descriptorIndex := 62, attributes := #[] }, { accessFlags := 24, nameIndex := 430, descriptorIndex := 62, attributes := #[] }, { accessFlags := 4120, nameIndex := 46, descriptorIndex := 47, attributes := #[] }])
  fields := #[{ name := "HI_BYTE_SHIFT", type := .int, accessFlags := 26, slot := 0, constantValue := 0 }, { name := "LO_BYTE_SHIFT", type := .int, accessFlags := 26, slot := 1, constantValue := 0 }, { name := "MAX_LENGTH", type := .int, accessFlags := 24, slot := 2, constantValue := 0 }, { name := "$assertionsDisabled", type := .boolean, accessFlags := 4120, slot := 3, constantValue := 0 }]
  methods := #[k8m0, k8m1, k8m2, k8m3, k8m4, k8m5, k8m6, k8m7, k8m8]
  instanceTypes := #[]
  staticTypes := #[.int, .int, .int, .boolean]
  resolved := Array.replicate 635 none
  statics := some 1 }

def pool9 : Array CpInfo := pool [(2, .class_ 4), (1, u "java/lang/Object"), (0, u "<init>"), (0, u "()V"), (0, .string 8), (0, u "name"), (0, .methodref 10 11), (0, .class_ 12), (0, .nameAndType 13 14), (0, u "java/util/Objects"), (0, u "requireNonNull"), (0, u "(Ljava/lang/Object;Ljava/lang/String;)Ljava/lang/Object;"), (0, .methodref 16 17), (0, .class_ 18), (0, .nameAndType 19 20), (0, u "java/lang/String"), (0, u "isEmpty"), (0, u "()Z"), (16, .class_ 39), (1, u "com/example/plus1/plus1/LockArguments"), (0, u "NANOS_PER_MILLI"), (0, u "J"), (43, u "checkName"), (0, u "(Ljava/lang/String;)Ljava/lang/String;")] 23

def k9m0 : Method := { name := "<init>", desc := "()V", sig := { parameters := [], returnType := none }, accessFlags := 2, code := none }
def k9c1 : Code := { maxStack := 3, maxLocals := 1, code := prog_1_method_2_code, exceptionTable := #[], attributes := #[] }
def k9m1 : Method := { name := "checkName", desc := "(Ljava/lang/String;)Ljava/lang/String;", sig := { parameters := [(.object "java/lang/String")], returnType := some (.object "java/lang/String") }, accessFlags := 8, code := some k9c1 }
/-- com/example/plus1/plus1/LockArguments -/
def k9 : Class := { plain "com/example/plus1/plus1/LockArguments" (some 0) with
  accessFlags := 48
  interfaces := #[]
  cf := some (fileOf pool9 37 #[] #[{ accessFlags := 2, nameIndex := 5, descriptorIndex := 6, attributes := #[] }, { accessFlags := 8, nameIndex := 85, descriptorIndex := 86, attributes := #[] }] 48 2 #[] #[{ accessFlags := 26, nameIndex := 40, descriptorIndex := 41, attributes := #[] }])
  fields := #[{ name := "NANOS_PER_MILLI", type := .long, accessFlags := 26, slot := 0, constantValue := 0 }]
  methods := #[k9m0, k9m1]
  instanceTypes := #[]
  staticTypes := #[.long]
  resolved := Array.replicate 110 none
  statics := none }

def pool10 : Array CpInfo := pool [(2, .class_ 4), (1, u "java/lang/Object"), (0, u "<init>"), (0, u "()V"), (35, .class_ 44), (1, u "java/util/Objects"), (0, u "requireNonNull"), (48, u "(Ljava/lang/Object;Ljava/lang/String;)Ljava/lang/Object;")] 89

def k10m0 : Method := { name := "<init>", desc := "()V", sig := { parameters := [], returnType := none }, accessFlags := 2, code := none }
def k10c1 : Code := { maxStack := 3, maxLocals := 2, code := jdk_31_method_11_code, exceptionTable := #[], attributes := #[] }
def k10m1 : Method := { name := "requireNonNull", desc := "(Ljava/lang/Object;Ljava/lang/String;)Ljava/lang/Object;", sig := { parameters := [(.object "java/lang/Object"), (.object "java/lang/String")], returnType := some (.object "java/lang/Object") }, accessFlags := 9, code := some k10c1 }
/-- java/util/Objects -/
def k10 : Class := { plain "java/util/Objects" (some 0) with
  accessFlags := 49
  interfaces := #[]
  cf := some (fileOf pool10 42 #[] #[{ accessFlags := 2, nameIndex := 5, descriptorIndex := 6, attributes := #[] }, { accessFlags := 9, nameIndex := 45, descriptorIndex := 94, attributes := #[] }] 49 2 #[] #[])
  fields := #[]
  methods := #[k10m0, k10m1]
  instanceTypes := #[]
  staticTypes := #[]
  resolved := Array.replicate 184 none
  statics := none }

def pool11 : Array CpInfo := pool [(4, .class_ 6), (1, u "java/lang/Object"), (0, u "<init>"), (0, u "()V"), (5, .class_ 16), (1, u "java/lang/StringLatin1"), (104, u "$assertionsDisabled"), (0, u "Z"), (98, .class_ 223), (1, u "java/lang/StringLatin1$LinesSpliterator"), (166, .class_ 391), (0, u "java/lang/StringLatin1$CharsSpliterator")] 3

def k11m0 : Method := { name := "<init>", desc := "()V", sig := { parameters := [], returnType := none }, accessFlags := 0, code := none }
/-- java/lang/StringLatin1 -/
def k11 : Class := { plain "java/lang/StringLatin1" (some 0) with
  accessFlags := 48
  interfaces := #[]
  cf := some (fileOf pool11 14 #[.nestMembers #[390, 221]] #[{ accessFlags := 0, nameIndex := 7, descriptorIndex := 8, attributes := #[] }] 48 4 #[] #[{ accessFlags := 4120, nameIndex := 121, descriptorIndex := 122, attributes := #[] }])
  fields := #[{ name := "$assertionsDisabled", type := .boolean, accessFlags := 4120, slot := 0, constantValue := 0 }]
  methods := #[k11m0]
  instanceTypes := #[]
  staticTypes := #[.boolean]
  resolved := Array.replicate 395 none
  statics := none }

def pool12 : Array CpInfo := pool [(2, .class_ 4), (1, u "java/lang/Object"), (0, u "<init>"), (0, u "()V"), (17, .class_ 26), (1, u "jdk/internal/util/Preconditions"), (28, .class_ 56), (0, u "jdk/internal/util/Preconditions$4"), (57, .class_ 115), (0, u "jdk/internal/util/Preconditions$1"), (7, u "SIOOBE_FORMATTER"), (0, u "Ljava/util/function/BiFunction;"), (0, .class_ 126), (0, u "jdk/internal/util/Preconditions$2"), (3, u "AIOOBE_FORMATTER"), (0, .class_ 132), (0, u "jdk/internal/util/Preconditions$3"), (3, u "IOOBE_FORMATTER")] 57

def k12m0 : Method := { name := "<init>", desc := "()V", sig := { parameters := [], returnType := none }, accessFlags := 1, code := none }
/-- jdk/internal/util/Preconditions -/
def k12 : Class := { plain "jdk/internal/util/Preconditions" (some 0) with
  accessFlags := 33
  interfaces := #[]
  cf := some (fileOf pool12 24 #[.nestMembers #[55, 131, 125, 114]] #[{ accessFlags := 1, nameIndex := 5, descriptorIndex := 6, attributes := #[] }] 33 2 #[] #[{ accessFlags := 25, nameIndex := 123, descriptorIndex := 124, attributes := #[] }, { accessFlags := 25, nameIndex := 130, descriptorIndex := 124, attributes := #[] }, { accessFlags := 25, nameIndex := 136, descriptorIndex := 124, attributes := #[] }])
  fields := #[{ name := "SIOOBE_FORMATTER", type := (.object "java/util/function/BiFunction"), accessFlags := 25, slot := 0, constantValue := 0 }, { name := "AIOOBE_FORMATTER", type := (.object "java/util/function/BiFunction"), accessFlags := 25, slot := 1, constantValue := 0 }, { name := "IOOBE_FORMATTER", type := (.object "java/util/function/BiFunction"), accessFlags := 25, slot := 2, constantValue := 0 }]
  methods := #[k12m0]
  instanceTypes := #[]
  staticTypes := #[(.object "java/util/function/BiFunction"), (.object "java/util/function/BiFunction"), (.object "java/util/function/BiFunction")]
  resolved := Array.replicate 194 none
  statics := some 2 }

def pool13 : Array CpInfo := pool [(9, u "<init>"), (6, .class_ 18), (1, u "java/lang/Object"), (0, u "()V"), (1, .class_ 23), (1, u "jdk/internal/util/ArraysSupport"), (0, u "LOG2_ARRAY_LONG_INDEX_SCALE"), (0, u "I"), (2, u "U"), (0, u "Ljdk/internal/misc/Unsafe;"), (8, u "BIG_ENDIAN"), (0, u "Z"), (8, u "LOG2_BYTE_BIT_SIZE"), (4, u "LOG2_ARRAY_INT_INDEX_SCALE"), (54, u "JLA"), (0, u "Ljdk/internal/access/JavaLangAccess;"), (11, u "LOG2_ARRAY_BOOLEAN_INDEX_SCALE"), (9, u "LOG2_ARRAY_BYTE_INDEX_SCALE"), (5, u "LOG2_ARRAY_CHAR_INDEX_SCALE"), (5, u "LOG2_ARRAY_SHORT_INDEX_SCALE"), (18, u "LOG2_ARRAY_FLOAT_INDEX_SCALE"), (24, u "LOG2_ARRAY_DOUBLE_INDEX_SCALE"), (89, u "T_BOOLEAN"), (2, u "T_CHAR"), (1, u "T_FLOAT"), (1, u "T_DOUBLE"), (1, u "T_BYTE"), (1, u "T_SHORT"), (1, u "T_INT"), (1, u "T_LONG"), (1, u "SOFT_MAX_ARRAY_LENGTH")] 83

def k13m0 : Method := { name := "<init>", desc := "()V", sig := { parameters := [], returnType := none }, accessFlags := 2, code := none }
/-- jdk/internal/util/ArraysSupport -/
def k13 : Class := { plain "jdk/internal/util/ArraysSupport" (some 0) with
  accessFlags := 33
  interfaces := #[]
  cf := some (fileOf pool13 21 #[] #[{ accessFlags := 2, nameIndex := 9, descriptorIndex := 19, attributes := #[] }] 33 16 #[] #[{ accessFlags := 24, nameIndex := 28, descriptorIndex := 29, attributes := #[] }, { accessFlags := 26, nameIndex := 38, descriptorIndex := 39, attributes := #[] }, { accessFlags := 25, nameIndex := 121, descriptorIndex := 25, attributes := #[] }, { accessFlags := 25, nameIndex := 131, descriptorIndex := 25, attributes := #[] }, { accessFlags := 25, nameIndex := 137, descriptorIndex := 25, attributes := #[] }, { accessFlags := 25, nameIndex := 143, descriptorIndex := 25, attributes := #[] }, { accessFlags := 25, nameIndex := 53, descriptorIndex := 25, attributes := #[] }, { accessFlags := 25, nameIndex := 24, descriptorIndex := 25, attributes := #[] }, { accessFlags := 25, nameIndex := 162, descriptorIndex := 25, attributes := #[] }, { accessFlags := 25, nameIndex := 187, descriptorIndex := 25, attributes := #[] }, { accessFlags := 26, nameIndex := 48, descriptorIndex := 25, attributes := #[] }, { accessFlags := 25, nameIndex := 277, descriptorIndex := 25, attributes := #[] }, { accessFlags := 25, nameIndex := 280, descriptorIndex := 25, attributes := #[] }, { accessFlags := 25, nameIndex := 282, descriptorIndex := 25, attributes := #[] }, { accessFlags := 25, nameIndex := 284, descriptorIndex := 25, attributes := #[] }, { accessFlags := 25, nameIndex := 286, descriptorIndex := 25, attributes := #[] }, { accessFlags := 25, nameIndex := 288, descriptorIndex := 25, attributes := #[] }, { accessFlags := 25, nameIndex := 290, descriptorIndex := 25, attributes := #[] }, { accessFlags := 25, nameIndex := 292, descriptorIndex := 25, attributes := #[] }, { accessFlags := 26, nameIndex := 108, descriptorIndex := 109, attributes := #[] }, { accessFlags := 25, nameIndex := 294, descriptorIndex := 25, attributes := #[] }])
  fields := #[{ name := "U", type := (.object "jdk/internal/misc/Unsafe"), accessFlags := 24, slot := 0, constantValue := 0 }, { name := "BIG_ENDIAN", type := .boolean, accessFlags := 26, slot := 1, constantValue := 0 }, { name := "LOG2_ARRAY_BOOLEAN_INDEX_SCALE", type := .int, accessFlags := 25, slot := 2, constantValue := 0 }, { name := "LOG2_ARRAY_BYTE_INDEX_SCALE", type := .int, accessFlags := 25, slot := 3, constantValue := 0 }, { name := "LOG2_ARRAY_CHAR_INDEX_SCALE", type := .int, accessFlags := 25, slot := 4, constantValue := 0 }, { name := "LOG2_ARRAY_SHORT_INDEX_SCALE", type := .int, accessFlags := 25, slot := 5, constantValue := 0 }, { name := "LOG2_ARRAY_INT_INDEX_SCALE", type := .int, accessFlags := 25, slot := 6, constantValue := 0 }, { name := "LOG2_ARRAY_LONG_INDEX_SCALE", type := .int, accessFlags := 25, slot := 7, constantValue := 0 }, { name := "LOG2_ARRAY_FLOAT_INDEX_SCALE", type := .int, accessFlags := 25, slot := 8, constantValue := 0 }, { name := "LOG2_ARRAY_DOUBLE_INDEX_SCALE", type := .int, accessFlags := 25, slot := 9, constantValue := 0 }, { name := "LOG2_BYTE_BIT_SIZE", type := .int, accessFlags := 26, slot := 10, constantValue := 0 }, { name := "T_BOOLEAN", type := .int, accessFlags := 25, slot := 11, constantValue := 0 }, { name := "T_CHAR", type := .int, accessFlags := 25, slot := 12, constantValue := 0 }, { name := "T_FLOAT", type := .int, accessFlags := 25, slot := 13, constantValue := 0 }, { name := "T_DOUBLE", type := .int, accessFlags := 25, slot := 14, constantValue := 0 }, { name := "T_BYTE", type := .int, accessFlags := 25, slot := 15, constantValue := 0 }, { name := "T_SHORT", type := .int, accessFlags := 25, slot := 16, constantValue := 0 }, { name := "T_INT", type := .int, accessFlags := 25, slot := 17, constantValue := 0 }, { name := "T_LONG", type := .int, accessFlags := 25, slot := 18, constantValue := 0 }, { name := "JLA", type := (.object "jdk/internal/access/JavaLangAccess"), accessFlags := 26, slot := 19, constantValue := 0 }, { name := "SOFT_MAX_ARRAY_LENGTH", type := .int, accessFlags := 25, slot := 20, constantValue := 0 }]
  methods := #[k13m0]
  instanceTypes := #[]
  staticTypes := #[(.object "jdk/internal/misc/Unsafe"), .boolean, .int, .int, .int, .int, .int, .int, .int, .int, .int, .int, .int, .int, .int, .int, .int, .int, .int, (.object "jdk/internal/access/JavaLangAccess"), .int]
  resolved := Array.replicate 378 none
  statics := none }

def pool14 : Array CpInfo := pool [(1, u "java/lang/Cloneable"), (0, .class_ 1), (0, u "java/lang/Object"), (0, .class_ 3)] 3

/-- java/lang/Cloneable -/
def k14 : Class := { plain "java/lang/Cloneable" (some 0) with
  accessFlags := 1537
  interfaces := #[]
  cf := some (fileOf pool14 2 #[] #[] 1537 4 #[] #[])
  fields := #[]
  methods := #[]
  instanceTypes := #[]
  staticTypes := #[]
  resolved := Array.replicate 8 none
  statics := none }

/-- the primitive byte -/
def k15 : Class := { plain "byte" none with kind := .primitive 'B', accessFlags := 0x411 }
/-- [B -/
def k16 : Class := { plain "[B" (some 0) with kind := .array 15 .byte, interfaces := #[14, 2], accessFlags := 1041 }

/-- the primitive char -/
def k17 : Class := { plain "char" none with kind := .primitive 'C', accessFlags := 0x411 }
/-- [C -/
def k18 : Class := { plain "[C" (some 0) with kind := .array 17 .char, interfaces := #[14, 2], accessFlags := 1041 }

/-- the primitive int -/
def k19 : Class := { plain "int" none with kind := .primitive 'I', accessFlags := 0x411 }
/-- [I -/
def k20 : Class := { plain "[I" (some 0) with kind := .array 19 .int, interfaces := #[14, 2], accessFlags := 1041 }

def heap : Heap := #[{ cls := 7, slots := #[.long 0, .int 1, .null, .int 0, .null, .int 0, .int 0], vm := .statics 7 },
  { cls := 8, slots := #[.int 0, .int 8, .int 0, .int 1], vm := .statics 8 },
  { cls := 12, slots := #[.null, .null, .null], vm := .statics 12 }]
def classes : Array Class := #[k0, k1, k2, k3, k4, k5, k6, k7, k8, k9, k10, k11, k12, k13, k14, k15, k16, k17, k18, k19, k20]
def interned : List (Array UInt16 × Addr) := []
def slotsUsed : Nat := 14
def theMethod : MethodId := ⟨1, 1⟩
def args0 : Array Value := #[.int 3, .int 65, .int 6600, .int 67, .int 2]
def aboutOver (below : List Frame) : State where
  vm := { classes := classes, interned := interned.toArray }
  heap := heap
  slotsUsed := slotsUsed
  threads := #[{ frames := .invoking theMethod args0 :: below }]
def below0 : List Frame := [.native { method := ⟨0, 0⟩, args := #[] }]
def about1 : State := aboutOver below0
def p0 : Program := .bare "" "" ""
def e0 : Env := launch0.env 0 0 0
theorem w_frames : about1.frames = Frame.invoking theMethod args0 :: below0 := rfl
set_option maxRecDepth 65536 in
theorem w_args : argsFit about1.vm theMethod args0 = true := by decide +kernel
set_option maxRecDepth 65536 in
theorem w_heap : heapFits about1 = true := by decide +kernel
set_option maxRecDepth 65536 in
theorem w_runnable : about1.curStatus? = some .runnable := by decide +kernel
set_option maxRecDepth 65536 in
theorem w_alone : about1.alone = true := by decide +kernel
set_option maxRecDepth 65536 in
theorem w_named : about1.methodNamed? x = some theMethod := by decide +kernel
set_option maxRecDepth 65536 in
theorem w_hears : about1.hears theMethod below0 = true := by decide +kernel
set_option maxRecDepth 65536 in
theorem w_ripe : about1.ripe theMethod args0 below0 = true := by decide +kernel
theorem w_running : about1.status = .running := rfl
set_option maxRecDepth 65536 in
theorem w_room : about1.hasRoom e0.platform room_1 = true :=
  launch0.hasRoom_least _ room_1 (by decide +kernel) (by decide +kernel) (by decide +kernel) (by decide +kernel) (by decide +kernel) (by decide +kernel)
theorem allAtoms_all (ts : List Jvm.Cond) (a : Array Jvm.Value) (st : Jvm.State) : (allAtoms ts).before a st = ts.all (fun c => c.before a st) := by
  induction ts with
  | nil => rfl
  | cons c t ih =>
    show (Jvm.Cond.and c (allAtoms t)).before a st = _
    rw [Jvm.Cond.before_and, ih, List.all_cons]
def words1 : List Jvm.Cond := Jvm.Cond.code x code maxLocals ret :: tables_1
/-- a 'code' word, met by the world's own term for the bytes: nothing is compared byte by byte -/
theorem code_word {y : MethodName} {bytes : ByteArray} {mx : Nat} {rt : Option FieldType} {a : Array Value} {s : State} {m : MethodId} {meth : Method} {c : Code} (h1 : s.methodNamed? y = some m) (h2 : s.vm.method? m = some meth) (h3 : meth.code = some c) (h4 : c.code = bytes)
    (h5 : (c.maxLocals == mx && c.exceptionTable.isEmpty && decide (c.maxStack ≤ mostOperands) && decide (meth.sig.returnType = rt) && !meth.locks && decide (parseMethodDescriptor y.desc = some meth.sig)) = true) : (Jvm.Cond.code y bytes mx rt).before a s = true := by
  simp only [Bool.and_eq_true, beq_iff_eq, Bool.not_eq_true', decide_eq_true_eq] at h5
  obtain ⟨⟨⟨⟨⟨g1, g2⟩, g3⟩, g4⟩, g5⟩, g6⟩ := h5
  simp [Cond.before, Cond.holds, Cond.value, h1, h2, h3, h4, g1, g2, g3, g4, g5, g6]
def isCode : Jvm.Cond → Bool
  | .code _ _ _ _ => true
  | _ => false
theorem all_split {L : List Jvm.Cond} {P : Jvm.Cond → Bool} (h1 : L.all (fun c => isCode c || P c) = true) (h2 : ∀ c ∈ L.filter isCode, P c = true) : L.all P = true := by
  refine List.all_eq_true.mpr fun c hc => ?_
  have h := List.all_eq_true.mp h1 c hc
  rcases Bool.eq_false_or_eq_true (isCode c) with hi | hi
  · exact h2 c (List.mem_filter.mpr ⟨hc, hi⟩)
  · simpa [hi] using h
set_option maxRecDepth 65536 in
theorem w_c0 : (Jvm.Cond.code x code maxLocals ret).before args0 about1 = true := code_word (m := ⟨1, 1⟩) (meth := k1m1) (c := k1c1) (by decide +kernel) rfl rfl rfl (by decide +kernel)
set_option maxRecDepth 65536 in
theorem w_c1 : (Jvm.Cond.code ({ cls := "java/lang/String", name := "<init>", desc := "([C)V" } : Jvm.MethodName) jdk_42_method_3_code (2 : Nat) (Option.none : Option Jvm.ClassFile.FieldType)).before args0 about1 = true := code_word (m := ⟨7, 1⟩) (meth := k7m1) (c := k7c1) (by decide +kernel) rfl rfl rfl (by decide +kernel)
set_option maxRecDepth 65536 in
theorem w_c2 : (Jvm.Cond.code ({ cls := "java/lang/String", name := "<init>", desc := "([CIILjava/lang/Void;)V" } : Jvm.MethodName) jdk_42_method_149_code (6 : Nat) (Option.none : Option Jvm.ClassFile.FieldType)).before args0 about1 = true := code_word (m := ⟨7, 3⟩) (meth := k7m3) (c := k7c3) (by decide +kernel) rfl rfl rfl (by decide +kernel)
set_option maxRecDepth 65536 in
theorem w_c3 : (Jvm.Cond.code ({ cls := "java/lang/Object", name := "<init>", desc := "()V" } : Jvm.MethodName) object_method_1_code (1 : Nat) (Option.none : Option Jvm.ClassFile.FieldType)).before args0 about1 = true := code_word (m := ⟨0, 0⟩) (meth := k0m0) (c := k0c0) (by decide +kernel) rfl rfl rfl (by decide +kernel)
set_option maxRecDepth 65536 in
theorem w_c4 : (Jvm.Cond.code ({ cls := "java/lang/StringUTF16", name := "compress", desc := "([CII)[B" } : Jvm.MethodName) jdk_52_method_16_code (6 : Nat) (Option.some (Jvm.ClassFile.FieldType.array Jvm.ClassFile.FieldType.byte))).before args0 about1 = true := code_word (m := ⟨8, 7⟩) (meth := k8m7) (c := k8c7) (by decide +kernel) rfl rfl rfl (by decide +kernel)
set_option maxRecDepth 65536 in
theorem w_c5 : (Jvm.Cond.code ({ cls := "java/lang/StringUTF16", name := "compress", desc := "([CI[BII)I" } : Jvm.MethodName) jdk_52_method_21_code (7 : Nat) (Option.some Jvm.ClassFile.FieldType.int)).before args0 about1 = true := code_word (m := ⟨8, 8⟩) (meth := k8m8) (c := k8c8) (by decide +kernel) rfl rfl rfl (by decide +kernel)
set_option maxRecDepth 65536 in
theorem w_c6 : (Jvm.Cond.code ({ cls := "java/lang/StringUTF16", name := "coderFromArrayLen", desc := "([BI)B" } : Jvm.MethodName) jdk_52_method_15_code (2 : Nat) (Option.some Jvm.ClassFile.FieldType.byte)).before args0 about1 = true := code_word (m := ⟨8, 6⟩) (meth := k8m6) (c := k8c6) (by decide +kernel) rfl rfl rfl (by decide +kernel)
set_option maxRecDepth 65536 in
theorem w_c7 : (Jvm.Cond.code ({ cls := "com/example/plus1/plus1/LockArguments", name := "checkName", desc := "(Ljava/lang/String;)Ljava/lang/String;" } : Jvm.MethodName) prog_1_method_2_code (1 : Nat) (Option.some (Jvm.ClassFile.FieldType.object "java/lang/String"))).before args0 about1 = true := code_word (m := ⟨9, 1⟩) (meth := k9m1) (c := k9c1) (by decide +kernel) rfl rfl rfl (by decide +kernel)
set_option maxRecDepth 65536 in
theorem w_c8 : (Jvm.Cond.code ({ cls := "java/util/Objects", name := "requireNonNull", desc := "(Ljava/lang/Object;Ljava/lang/String;)Ljava/lang/Object;" } : Jvm.MethodName) jdk_31_method_11_code (2 : Nat) (Option.some (Jvm.ClassFile.FieldType.object "java/lang/Object"))).before args0 about1 = true := code_word (m := ⟨10, 1⟩) (meth := k10m1) (c := k10c1) (by decide +kernel) rfl rfl rfl (by decide +kernel)
set_option maxRecDepth 65536 in
theorem w_c9 : (Jvm.Cond.code ({ cls := "java/lang/String", name := "isEmpty", desc := "()Z" } : Jvm.MethodName) jdk_42_method_55_code (1 : Nat) (Option.some Jvm.ClassFile.FieldType.boolean)).before args0 about1 = true := code_word (m := ⟨7, 2⟩) (meth := k7m2) (c := k7c2) (by decide +kernel) rfl rfl rfl (by decide +kernel)
set_option maxRecDepth 65536 in
theorem w_c10 : (Jvm.Cond.code ({ cls := "java/lang/StringUTF16", name := "toBytes", desc := "([CII)[B" } : Jvm.MethodName) jdk_52_method_14_code (5 : Nat) (Option.some (Jvm.ClassFile.FieldType.array Jvm.ClassFile.FieldType.byte))).before args0 about1 = true := code_word (m := ⟨8, 5⟩) (meth := k8m5) (c := k8c5) (by decide +kernel) rfl rfl rfl (by decide +kernel)
set_option maxRecDepth 65536 in
theorem w_c11 : (Jvm.Cond.code ({ cls := "java/lang/StringUTF16", name := "newBytesFor", desc := "(I)[B" } : Jvm.MethodName) jdk_52_method_2_code (1 : Nat) (Option.some (Jvm.ClassFile.FieldType.array Jvm.ClassFile.FieldType.byte))).before args0 about1 = true := code_word (m := ⟨8, 1⟩) (meth := k8m1) (c := k8c1) (by decide +kernel) rfl rfl rfl (by decide +kernel)
set_option maxRecDepth 65536 in
theorem w_c12 : (Jvm.Cond.code ({ cls := "java/lang/StringUTF16", name := "newBytesLength", desc := "(I)I" } : Jvm.MethodName) jdk_52_method_3_code (1 : Nat) (Option.some Jvm.ClassFile.FieldType.int)).before args0 about1 = true := code_word (m := ⟨8, 2⟩) (meth := k8m2) (c := k8c2) (by decide +kernel) rfl rfl rfl (by decide +kernel)
set_option maxRecDepth 65536 in
theorem w_c13 : (Jvm.Cond.code ({ cls := "java/lang/StringUTF16", name := "putChar", desc := "([BII)V" } : Jvm.MethodName) jdk_52_method_4_code (3 : Nat) (Option.none : Option Jvm.ClassFile.FieldType)).before args0 about1 = true := code_word (m := ⟨8, 3⟩) (meth := k8m3) (c := k8c3) (by decide +kernel) rfl rfl rfl (by decide +kernel)
set_option maxRecDepth 65536 in
theorem w_c14 : (Jvm.Cond.code ({ cls := "java/lang/StringUTF16", name := "getChar", desc := "([BI)C" } : Jvm.MethodName) jdk_52_method_5_code (2 : Nat) (Option.some Jvm.ClassFile.FieldType.char)).before args0 about1 = true := code_word (m := ⟨8, 4⟩) (meth := k8m4) (c := k8c4) (by decide +kernel) rfl rfl rfl (by decide +kernel)
def codes1 : List Jvm.Cond := [Jvm.Cond.code x code maxLocals ret, Jvm.Cond.code ({ cls := "java/lang/String", name := "<init>", desc := "([C)V" } : Jvm.MethodName) jdk_42_method_3_code (2 : Nat) (Option.none : Option Jvm.ClassFile.FieldType), Jvm.Cond.code ({ cls := "java/lang/String", name := "<init>", desc := "([CIILjava/lang/Void;)V" } : Jvm.MethodName) jdk_42_method_149_code (6 : Nat) (Option.none : Option Jvm.ClassFile.FieldType), Jvm.Cond.code ({ cls := "java/lang/Object", name := "<init>", desc := "()V" } : Jvm.MethodName) object_method_1_code (1 : Nat) (Option.none : Option Jvm.ClassFile.FieldType), Jvm.Cond.code ({ cls := "java/lang/StringUTF16", name := "compress", desc := "([CII)[B" } : Jvm.MethodName) jdk_52_method_16_code (6 : Nat) (Option.some (Jvm.ClassFile.FieldType.array Jvm.ClassFile.FieldType.byte)), Jvm.Cond.code ({ cls := "java/lang/StringUTF16", name := "compress", desc := "([CI[BII)I" } : Jvm.MethodName) jdk_52_method_21_code (7 : Nat) (Option.some Jvm.ClassFile.FieldType.int), Jvm.Cond.code ({ cls := "java/lang/StringUTF16", name := "coderFromArrayLen", desc := "([BI)B" } : Jvm.MethodName) jdk_52_method_15_code (2 : Nat) (Option.some Jvm.ClassFile.FieldType.byte), Jvm.Cond.code ({ cls := "com/example/plus1/plus1/LockArguments", name := "checkName", desc := "(Ljava/lang/String;)Ljava/lang/String;" } : Jvm.MethodName) prog_1_method_2_code (1 : Nat) (Option.some (Jvm.ClassFile.FieldType.object "java/lang/String")), Jvm.Cond.code ({ cls := "java/util/Objects", name := "requireNonNull", desc := "(Ljava/lang/Object;Ljava/lang/String;)Ljava/lang/Object;" } : Jvm.MethodName) jdk_31_method_11_code (2 : Nat) (Option.some (Jvm.ClassFile.FieldType.object "java/lang/Object")), Jvm.Cond.code ({ cls := "java/lang/String", name := "isEmpty", desc := "()Z" } : Jvm.MethodName) jdk_42_method_55_code (1 : Nat) (Option.some Jvm.ClassFile.FieldType.boolean), Jvm.Cond.code ({ cls := "java/lang/StringUTF16", name := "toBytes", desc := "([CII)[B" } : Jvm.MethodName) jdk_52_method_14_code (5 : Nat) (Option.some (Jvm.ClassFile.FieldType.array Jvm.ClassFile.FieldType.byte)), Jvm.Cond.code ({ cls := "java/lang/StringUTF16", name := "newBytesFor", desc := "(I)[B" } : Jvm.MethodName) jdk_52_method_2_code (1 : Nat) (Option.some (Jvm.ClassFile.FieldType.array Jvm.ClassFile.FieldType.byte)), Jvm.Cond.code ({ cls := "java/lang/StringUTF16", name := "newBytesLength", desc := "(I)I" } : Jvm.MethodName) jdk_52_method_3_code (1 : Nat) (Option.some Jvm.ClassFile.FieldType.int), Jvm.Cond.code ({ cls := "java/lang/StringUTF16", name := "putChar", desc := "([BII)V" } : Jvm.MethodName) jdk_52_method_4_code (3 : Nat) (Option.none : Option Jvm.ClassFile.FieldType), Jvm.Cond.code ({ cls := "java/lang/StringUTF16", name := "getChar", desc := "([BI)C" } : Jvm.MethodName) jdk_52_method_5_code (2 : Nat) (Option.some Jvm.ClassFile.FieldType.char)]
set_option maxRecDepth 65536 in
theorem codes_eq : words1.filter isCode = codes1 := rfl
theorem w_codes : ∀ c ∈ words1.filter isCode, c.before args0 about1 = true := by
  rw [codes_eq]
  intro c hc
  simp only [codes1, List.mem_cons, List.not_mem_nil, or_false] at hc
  rcases hc with rfl | rfl | rfl | rfl | rfl | rfl | rfl | rfl | rfl | rfl | rfl | rfl | rfl | rfl | rfl
  · exact w_c0
  · exact w_c1
  · exact w_c2
  · exact w_c3
  · exact w_c4
  · exact w_c5
  · exact w_c6
  · exact w_c7
  · exact w_c8
  · exact w_c9
  · exact w_c10
  · exact w_c11
  · exact w_c12
  · exact w_c13
  · exact w_c14
set_option maxRecDepth 65536 in
theorem w_t1 : (words1.take 24).all (fun c => isCode c || c.before args0 about1) = true := by decide +kernel
set_option maxRecDepth 65536 in
theorem w_t2 : ((words1.drop 24).take 24).all (fun c => isCode c || c.before args0 about1) = true := by decide +kernel
set_option maxRecDepth 65536 in
theorem w_t3 : ((words1.drop 24).drop 24).all (fun c => isCode c || c.before args0 about1) = true := by decide +kernel
theorem w_tables : (allAtoms (Jvm.Cond.code x code maxLocals ret :: tables_1)).before args0 about1 = true := by
  rw [allAtoms_all]
  show words1.all (fun c => c.before args0 about1) = true
  refine all_split ?_ w_codes
  rw [← List.take_append_drop 24 words1, List.all_append, w_t1, ← List.take_append_drop 24 (words1.drop 24), List.all_append, w_t2, w_t3]
  rfl
set_option maxRecDepth 65536 in
theorem w_rest : rest_1_c.before args0 about1 = true := by decide +kernel
set_option maxRecDepth 65536 in
theorem w_case : (Jvm.Cond.and given_1 narrow_1).before args0 about1 = true := by decide +kernel
theorem w_applies : (headSpec (Jvm.Cond.code x code maxLocals ret :: tables_1) room_1).applies x e0.platform about1 = true :=
  (Spec.applies_iff w_frames).mpr ⟨w_running, w_runnable, w_alone, w_named, w_hears, w_ripe, w_room, w_tables⟩
theorem atStart : AtStart classFile x code maxLocals ret World_1 tables_1 room_1 Calls_1 rest_1 Pre_1 launch0 p0 e0 about1 theMethod args0 below0 :=
  ⟨lists_1, trivial, launch0.admits_env _ _ _, launch0.least_env, fairChoices_fair.cas, fairChoices_fair.clock, w_frames, w_args, w_heap, w_applies, trivial, w_rest, w_case⟩
end start1
theorem witness_1 : WitnessClaimed_1 := ⟨start1.p0, start1.e0, start1.about1, start1.theMethod, start1.args0, start1.below0, start1.atStart⟩
end Jvm.Pilot.@@N@@
