import JvmDerived
import JvmDerived.Pilot.@@N@@Statement
import JvmDerived.Pilot.@@N@@Code
set_option linter.unusedVariables false
set_option linter.unusedSimpArgs false
namespace Jvm.Pilot.@@N@@
open Jvm Jvm.ClassFile Sem Op Lib Jvm.Free Jvm.Stand Jvm.LawKit Jvm.RoadKit Bundle Jvm.Pilot.@@N@@.Jvm.D
abbrev Za (p : Program) (e : Env) (below : List Frame) (m : MethodId) (T : State) (pc : Nat) (ls : Array Slot) (st : List Value) (t : State) : Prop := Steps p.tables e below (T.setTop (mkF m pc ls st)) t
abbrev L1a (p : Program) (e : Env) (below : List Frame) (m : MethodId) (T : State) (a : Array Value) (n : Nat) (t : State) : Prop := Steps p.tables e below (T.setTop (entryFrame m a n)) t
theorem Ba {a0 : Array Value} {Z : State} (hw : ∀ d ∈ tables_1, d.before a0 Z = true) (i : Nat) {d : Jvm.Cond} (h : tables_1[i]? = some d) : d.before a0 Z = true := hw d (List.mem_of_getElem? h)
theorem Dza {t : Term} {k : Int32} {args : Array Value} {s : State} (h : (Jvm.Cond.eq t (.int k)).value args s none s [] = some true) : t.eval args s none [] s = some (.int k) := by
 have e : (Term.int k).eval args s none [] s = some (.int k) := rfl
 simp only [Cond.value, e] at h
 cases ht : t.eval args s none [] s with
 | none => simp [ht] at h
 | some x => cases x <;> simp [ht] at h ⊢; exact h
theorem B8a {t : Term} {k z : Int32} {args : Array Value} {s : State} (e : t.eval args s none [] s = some (.int z)) (h : (Jvm.Cond.not (Jvm.Cond.eq t (.int k))).value args s none s [] = some true) : ¬ (z = k) := by
 have q := not_v h
 have e2 : (Term.int k).eval args s none [] s = some (.int k) := rfl
 simp only [Cond.value, e, e2, Bool.not_true, Option.some.injEq, decide_eq_false_iff_not] at q
 exact q
theorem own_neR {t u : Term} {a b : Addr} {args : Array Value} {s : State} (ea : t.eval args s none [] s = some (.ref a)) (eb : u.eval args s none [] s = some (.ref b)) (h : (Jvm.Cond.not (Jvm.Cond.eq t u)).value args s none s [] = some true) : ¬ (a = b) := by
 have q := not_v h
 rw [eq_R ea eb rfl rfl] at q
 intro e
 rw [e] at q
 simp at q
theorem own_eqJ {t : Term} {k : Int64} {args : Array Value} {s : State} (h : (Jvm.Cond.eq t (.long k)).value args s none s [] = some true) : t.eval args s none [] s = some (.long k) := by
 have e : (Term.long k).eval args s none [] s = some (.long k) := rfl
 simp only [Cond.value, e] at h
 cases ht : t.eval args s none [] s with
 | none => simp [ht] at h
 | some x => cases x <;> simp [ht] at h ⊢; exact h
theorem own_len {t : Term} {n : Int32} {a : Addr} {cl : Cell} {ty : FieldType} {args : Array Value} {s : State} (ev : t.eval args s none [] s = some (.ref a)) (A : Arr s s.heap a cl ty) (h : (Jvm.Cond.eq (.length t) (.int n)).value args s none s [] = some true) : cl.slots.size < 2 ^ 31 ∧ cl.slots.size.toInt32 = n := by
 have q := Dza h
 have hA := A.fin (Vm.Alike.refl _)
 simp only [Term.eval, ev, hA, Option.bind_eq_bind, Option.bind_some] at q
 split at q
 · rename_i hl
   exact ⟨hl, Value.int.inj (Option.some.inj q)⟩
 · cases q
theorem own_elem {t : Term} {j : Int32} {a : Addr} {v : Value} {cl : Cell} {ty : FieldType} {args : Array Value} {s : State} (ev : t.eval args s none [] s = some (.ref a)) (A : Arr s s.heap a cl ty) (h : (Term.elem t (.int j)).eval args s none [] s = some v) (i : Nat) (hi : j.toNatClampNeg = i) : cl.slots[i]? = some v := by
 have q := (elem_in h ev (rfl : (Term.int j).eval args s none [] s = some (.int j)) A.1).2
 rw [hi] at q; exact q
/-- an array as it stood at the start, that may be cloned -/
def Yba (Z : State) (h : Heap) (a : Addr) (ty : FieldType) (n : Int32) (vs : List Value) (d : Value) : Prop := ∃ c : Cell, Arr Z h a c ty ∧ FitC Z c ∧ c.slots.size = n.toNatClampNeg ∧ ¬ n < 0 ∧ Has c vs d ∧ ∀ i, i < c.slots.size → fits ty (vs.getD i d) = true
theorem Yba.ext {Z : State} {h h' : Heap} {a : Addr} {ty : FieldType} {n : Int32} {vs : List Value} {d : Value} (F : Yba Z h a ty n vs d) (E : Ext h h') : Yba Z h' a ty n vs d := by
 obtain ⟨c, A, r⟩ := F; exact ⟨c, A.ext E, r⟩
theorem Yba.start {Z : State} {a : Addr} {cl : Cell} {ty : FieldType} {z : Int32} {vs : List Value} {dv : Value} (hf : Fit Z) (A : Arr Z Z.heap a cl ty) (q : cl.slots.size < 2 ^ 31 ∧ cl.slots.size.toInt32 = z) (hz : ¬ z < 0) (hl : z.toNatClampNeg = vs.length) (H : HasL cl 0 vs) : Yba Z Z.heap a ty z vs dv := by
 have S : cl.slots.size = z.toNatClampNeg := by rw [← q.2]; simp only [Int32.toNatClampNeg, len_toInt q.1]; rfl
 have H' : Has cl vs dv := fun j hj => by have := HasL.at (dv := dv) vs 0 H j (by rw [← hl, ← S]; exact hj); rwa [Nat.zero_add] at this
 refine ⟨cl, A, FitC.start hf A, S, hz, H', fun j hj => ?_⟩
 have e1 : (Nat.toInt32 j).toNatClampNeg = j := by simp only [Int32.toNatClampNeg, len_toInt (Nat.lt_trans hj q.1)]; rfl
 exact elem_fits (j := Nat.toInt32 j) hf A (idx_in hj q.1) (by rw [e1]; exact H' j hj)
theorem Yba.arv {Z : State} {h : Heap} {a : Addr} {ty : FieldType} {n : Int32} {vs : List Value} {d : Value} (F : Yba Z h a ty n vs d) : ∃ k, Arv Z h a k ty n vs d := by
 obtain ⟨c, A, -, r⟩ := F; exact ⟨c.cls, c, A, rfl, r⟩
theorem D8a {t u : Term} {b : Addr} {args : Array Value} {s : State} (h : (Jvm.Cond.eq t u).value args s none s [] = some true) (e : u.eval args s none [] s = some (.ref b)) : t.eval args s none [] s = some (.ref b) := by
 simp only [Cond.value, e] at h
 cases ht : t.eval args s none [] s with
 | none => simp [ht] at h
 | some x => cases x <;> simp [ht] at h ⊢; exact h
theorem I6 (x : Int32) : nar .char (x.toUInt32.toUInt16.toUInt32.toInt32) = x.toUInt32.toUInt16.toUInt32.toInt32 := by
 show (x.toUInt32.toUInt16.toUInt32.toInt32).toUInt32.toUInt16.toUInt32.toInt32 = _
 have a := c_i2c x
 have b := c_i2c x.toUInt32.toUInt16.toUInt32.toInt32
 apply Int32.toInt_inj.mp
 omega
theorem own_dup2L {tb : Tables} [Ours tb] {e : Env} {below : List Frame} {T target : State} {m : MethodId} {c : Code} {g : JFrame} (h : At T m c below) (hx : tb.exec = Jvm.exec) (hg : g.method = m) {x : Int64} {rest : List Value} (hd : decode c.code g.pc = .ok (.dup2, 1)) (hs : g.stack = .long x :: rest) (hr : Steps tb e below (T.setTop { g with pc := g.pc + 1, stack := .long x :: .long x :: rest }) target) : Steps tb e below (T.setTop g) target := by
 subst hg
 jvm_step h [h.top, hx, hd, hs, Value.category]
 exact hr
set_option maxRecDepth 65536
set_option maxHeartbeats 40000000
abbrev Ab (p : Program) (e : Env) (below : List Frame) (m : MethodId) (s : State) (a : Array Value) (n : Nat) (T : State) (pc : Nat) (ls : Array Slot) (st : List Value) : Prop := ∀ t, Za p e below m T pc ls st t → L1a p e below m s a n t
abbrev Pb (a0 : Array Value) (Z : State) : Prop := ∀ d ∈ tables_1, d.before a0 Z = true
abbrev Ib (l : Launch) (y : MethodName) (cd : List Jvm.Cond) (R : Room) (as' : Array Value) (Z : State) (h0 : Heap) (Q : Option Value → Heap → List Loc → Prop) : Prop := MetFree l y (head1 cd R) (fun a U => a = as' ∧ Z.Warmed39 U.vm ∧ U.heap = h0) (fun _ _ _ _ _ => True) (fun _ U o U' => ∃ v L, o = .returned v ∧ Q v U'.heap L ∧ FrameEnd U o U' L R.cells R.slots)
def M1a (p : Program) (e : Env) (below : List Frame) (s s₁ : State) (m : MethodId) (as' : Array Value) (ml : Nat) (R : Room) (Q : Option Value → Heap → List Loc → Prop) : Prop := ¬ ∃ s₂ o, Steps p.tables e below (s₁.setTop (entryFrame m as' ml)) s₂ ∧ s₂.status = .running ∧ Ended s₂ below o ∧ ∃ v L, o = .returned v ∧ Q v s₂.heap L ∧ FrameEnd s o s₂ L R.cells R.slots
theorem Db {l : Launch} {y : MethodName} {cd : ByteArray} {ml : Nat} {rt : Option FieldType} {ws : List Jvm.Cond} {R : Room} {as' : Array Value} {Z : State} {h0 : Heap} {Q : Option Value → Heap → List Loc → Prop} (hpl : plainFor y = true) (n0 : Nat) (wl : List Addr)
   (B : ∀ p e s m below meth c s₁, p.tables.exec = Jvm.exec → c.code = cd → c.maxLocals = ml → s.vm.findClass y.cls = some m.cls → meth.name = y.name → meth.sig.returnType = rt → meth.locks = false → Stand p l e R s m as' below meth c s₁ [] 0 0 → s₁.heap = h0 → Z.Warmed39 s.vm → Fr n0 ([] : List Loc) → Keep h0 h0 wl → M1a p e below s s₁ m as' ml R Q → False) :
   Ib l y (Jvm.Cond.code y cd ml rt :: ws) R as' Z h0 Q := by
 refine MetFree.of_bodySF hpl hisR ?_
 intro p e s m args below meth c s₁ Bd hml0 hP hK
 obtain ⟨rfl, hZ, hh⟩ := hP
 exact Classical.byContradiction fun hNG => B p e s m below meth c s₁ Bd.exec Bd.bytes hml0 (findClass_of_methodNamed Bd.named) (name_of_methodNamed Bd.named Bd.method).1 Bd.returns Bd.notSynchronized (Stand.of_body Bd) (by rw [← hh, Bd.state]; rfl) hZ (Fr.nil n0) (Keep.refl h0 wl) hNG
theorem Ub {p : Program} {l : Launch} {e : Env} {R : Room} {s : State} {m : MethodId} {args : Array Value} {below : List Frame} {meth : Method} {c : Code} {T : State} {locs : List Loc} {cells slots : Nat} {Z : State} {a0 : Array Value} {h : Heap} {own : String} {index : Nat} {y : MethodName} {bytes : ByteArray} {maxL : Nat} {ret : Option FieldType} {rm : Room} {as' : Array Value} {Q : Option Value → Heap → List Loc → Prop} {W : Nat} (X : Stand p l e R s m args below meth c T locs cells slots) (hx : p.tables.exec = Jvm.exec) (hZ : Z.Warmed39 s.vm) (hown : s.vm.findClass own = some m.cls) (hM : Ib l y [Cond.code y bytes maxL ret] rm as' Z h Q) (w1 : (Cond.methodLink own index y).before a0 Z = true) (w2 : (Cond.static y).before a0 Z = true) (w3 : (Cond.initialized y.cls).before a0 Z = true) (wc : (Cond.code y bytes maxL ret).before a0 Z = true) (eT : T.heap = h) {g : JFrame} (hg : g.method = m) (hsize : g.locals.size = c.maxLocals) {argsL rest : List Value} (has : argsL.toArray = as') (hlen : ∀ sig, parseMethodDescriptor y.desc = some sig → argsL.length = sig.parameters.length) (hstack : g.stack = argsL.reverse ++ rest) (hW : 2 * g.monitorRoom + (rest.map fun v => v.category).sum ≤ W) (hdg : decode c.code g.pc = .ok (.invokestatic index, 3)) (hf : rm.frames + 1 ≤ R.frames) (hl : W + (maxL + 11) + rm.locals ≤ R.locals) (hc : cells + rm.cells ≤ R.cells) (hs : slots + rm.slots ≤ R.slots) (hy : y.cls ≠ "java/lang/invoke/MethodHandle" ∧ y.cls ≠ "java/lang/invoke/VarHandle") :
   ∃ v T' L, Stand p l e R s m args below meth c T' (locs ++ L) (cells + rm.cells) (slots + rm.slots) ∧ Q v T'.heap L ∧ ∀ t, Steps p.tables e below (T'.setTop { g with pc := g.pc + 3, stack := v.toList ++ rest }) t → Steps p.tables e below (T.setTop g) t := by
 obtain ⟨v, vm₁, ⟨T', L', k', n'⟩, -, X', ⟨Lc, hQ, q1, q2, q3⟩, st⟩ := Jvm.LawKit.callS X hx (y := y) hown (mvT hZ w1) (mvT hZ w2) (mvT hZ w3) (mvT hZ wc) hy (backOf (W := W) hM hZ wc w3 hf hl) (g := g) hg hsize (argsL := argsL) (rest := rest) hlen hstack hW hdg (fun _ _ => ⟨has, eT, hc, hs⟩)
 dsimp only [Pt.U, Pt.locs, Pt.cells, Pt.slots] at X' q1 q2 q3 st hQ
 subst q1 q2 q3
 exact ⟨v, T', Lc, X', hQ, st⟩
theorem G1 {p : Program} {l : Launch} {e : Env} {R : Room} {s : State} {m : MethodId} {args : Array Value} {below : List Frame} {meth : Method} {c : Code} {T : State} {locs : List Loc} {cells slots : Nat} {Z : State} {a0 : Array Value} {h : Heap} {own : String} {index : Nat} {y : MethodName} {bytes : ByteArray} {maxL : Nat} {rm : Room} {as' : Array Value} {Q : Option Value → Heap → List Loc → Prop} {W : Nat} (X : Stand p l e R s m args below meth c T locs cells slots) (hx : p.tables.exec = Jvm.exec) (hZ : Z.Warmed39 s.vm) (hown : s.vm.findClass own = some m.cls) {a : Addr} (hM : Ib l y [Cond.code y bytes maxL none] rm as' Z h Q) (w1 : (Cond.methodLink own index y).before a0 Z = true) (w2 : (Cond.instanceMethod y).before a0 Z = true) (w3 : (Cond.initialized y.cls).before a0 Z = true) (wc : (Cond.code y bytes maxL none).before a0 Z = true) (eT : T.heap = h) {g : JFrame} (hg : g.method = m) (hsize : g.locals.size = c.maxLocals) {argsL rest : List Value} (has : (.ref a :: argsL).toArray = as') (hlen : ∀ sig, parseMethodDescriptor y.desc = some sig → argsL.length = sig.parameters.length) (hstack : g.stack = argsL.reverse ++ .ref a :: rest) (hW : 2 * g.monitorRoom + (rest.map fun v => v.category).sum ≤ W) (hdg : decode c.code g.pc = .ok (.invokespecial index, 3)) (hf : rm.frames + 1 ≤ R.frames) (hl : W + (maxL + 11) + rm.locals ≤ R.locals) (hc : cells + rm.cells ≤ R.cells) (hs : slots + rm.slots ≤ R.slots) (hn : y.name = "<init>") (hy : y.cls ≠ "java/lang/invoke/MethodHandle" ∧ y.cls ≠ "java/lang/invoke/VarHandle") :
   ∃ v T' L, Stand p l e R s m args below meth c T' (locs ++ L) (cells + rm.cells) (slots + rm.slots) ∧ Q v T'.heap L ∧ ∀ t, Steps p.tables e below (T'.setTop { g with pc := g.pc + 3, stack := v.toList ++ rest }) t → Steps p.tables e below (T.setTop g) t := by
 obtain ⟨v, vm₁, ⟨T', L', k', n'⟩, -, X', ⟨Lc, hQ, q1, q2, q3⟩, st⟩ := X.specialBack hx (y := y) hn hown (mvT hZ w1) (mvT hZ w2) (mvT hZ wc) hy (backOf (W := W) hM hZ wc w3 hf hl) (g := g) hg hsize (Steps.refl _) (a := a) (argsL := argsL) (rest := rest) hlen hstack hW hdg (fun _ _ => ⟨has, eT, hc, hs⟩)
 dsimp only [Pt.U, Pt.locs, Pt.cells, Pt.slots] at X' q1 q2 q3 st hQ
 subst q1 q2 q3
 exact ⟨v, T', Lc, X', hQ, fun t k => st.trans k⟩
theorem Z6 {p : Program} {l : Launch} {e : Env} {R : Room} {s : State} {m : MethodId} {args : Array Value} {below : List Frame} {meth : Method} {c : Code} {T : State} {locs : List Loc} {cells slots : Nat} {Z : State} {a0 : Array Value} {h : Heap} {own : String} {index : Nat} {y : MethodName} {bytes : ByteArray} {maxL : Nat} {ret : Option FieldType} {rm : Room} {as' : Array Value} {Q : Option Value → Heap → List Loc → Prop} {W : Nat} {K : String} {y0 : MethodName} (X : Stand p l e R s m args below meth c T locs cells slots) (hx : p.tables.exec = Jvm.exec) (hZ : Z.Warmed39 s.vm) (hown : s.vm.findClass own = some m.cls) {a : Addr} (hM : Ib l y [Cond.code y bytes maxL ret] rm as' Z h Q) (w1 : (Cond.methodLink own index y0).before a0 Z = true) (w2 : (Cond.declares y0).before a0 Z = true) (w4 : (Cond.selects K y0 y).before a0 Z = true) (w5 : (Cond.instanceMethod y).before a0 Z = true) (nf : NotFace s y0) (w3 : (Cond.initialized y.cls).before a0 Z = true) (wc : (Cond.code y bytes maxL ret).before a0 Z = true) (eT : T.heap = h) (E : Exa Z h a K) {g : JFrame} (hg : g.method = m) (hsize : g.locals.size = c.maxLocals) {argsL rest : List Value} (has : (.ref a :: argsL).toArray = as') (hlen : ∀ sig, parseMethodDescriptor y0.desc = some sig → argsL.length = sig.parameters.length) (hstack : g.stack = argsL.reverse ++ .ref a :: rest) (hW : 2 * g.monitorRoom + (rest.map fun v => v.category).sum ≤ W) (hdg : decode c.code g.pc = .ok (.invokevirtual index, 3)) (hf : rm.frames + 1 ≤ R.frames) (hl : W + (maxL + 11) + rm.locals ≤ R.locals) (hc : cells + rm.cells ≤ R.cells) (hs : slots + rm.slots ≤ R.slots) (hy : y0.cls ≠ "java/lang/invoke/MethodHandle" ∧ y0.cls ≠ "java/lang/invoke/VarHandle") :
   ∃ v T' L, Stand p l e R s m args below meth c T' (locs ++ L) (cells + rm.cells) (slots + rm.slots) ∧ Q v T'.heap L ∧ ∀ t, Steps p.tables e below (T'.setTop { g with pc := g.pc + 3, stack := v.toList ++ rest }) t → Steps p.tables e below (T.setTop g) t := by
 obtain ⟨cq, kq, qa, qb, qc⟩ := isOf hZ eT E
 obtain ⟨v, vm₁, ⟨T', L', k', n'⟩, -, X', ⟨Lc, hQ, q1, q2, q3⟩, st⟩ := X.virtualBack hx (y := y0) (z := y) hown (mvT hZ w1) (mvT hZ w2) nf (mvT hZ w4) (mvT hZ w5) hy (backOf (W := W) hM hZ wc w3 hf hl) qa qc (g := g) hg hsize (Steps.refl _) (argsL := argsL) (rest := rest) hlen hstack hW hdg (fun _ _ => ⟨has, eT, hc, hs⟩)
 dsimp only [Pt.U, Pt.locs, Pt.cells, Pt.slots] at X' q1 q2 q3 st hQ
 subst q1 q2 q3
 exact ⟨v, T', Lc, X', hQ, fun t k => st.trans k⟩
theorem own_cp {p : Program} {l : Launch} {e : Env} {R : Room} {s : State} {m : MethodId} {args : Array Value} {below : List Frame} {meth : Method} {c : Code} {T : State} {locs : List Loc} {cells slots : Nat} {Z : State} {a0 : Array Value} {h : Heap} {own : String} {index : Nat} {y : MethodName} {bytes : ByteArray} {maxL : Nat} {ret : Option FieldType} {rm : Room} {as' : Array Value} {Q : Option Value → Heap → List Loc → Prop} {W : Nat} {K : String} (X : Stand p l e R s m args below meth c T locs cells slots) (hx : p.tables.exec = Jvm.exec) (hZ : Z.Warmed39 s.vm) (hown : s.vm.findClass own = some m.cls) {a : Addr} (hM : Ib l y [Cond.code y bytes maxL ret] rm as' Z h Q) (w1 : (Cond.methodLink own index y).before a0 Z = true) (w2 : (Cond.instanceMethod y).before a0 Z = true) (w4 : (Cond.selects y.cls y y).before a0 Z = true) (w5 : (Cond.privateMethod y).before a0 Z = true) (w3 : (Cond.initialized y.cls).before a0 Z = true) (wc : (Cond.code y bytes maxL ret).before a0 Z = true) (eT : T.heap = h) (E : Exa Z h a K) {g : JFrame} (hg : g.method = m) (hsize : g.locals.size = c.maxLocals) {argsL rest : List Value} (has : (.ref a :: argsL).toArray = as') (hlen : ∀ sig, parseMethodDescriptor y.desc = some sig → argsL.length = sig.parameters.length) (hstack : g.stack = argsL.reverse ++ .ref a :: rest) (hW : 2 * g.monitorRoom + (rest.map fun v => v.category).sum ≤ W) (hdg : decode c.code g.pc = .ok (.invokevirtual index, 3)) (hf : rm.frames + 1 ≤ R.frames) (hl : W + (maxL + 11) + rm.locals ≤ R.locals) (hc : cells + rm.cells ≤ R.cells) (hs : slots + rm.slots ≤ R.slots) (hy : y.cls ≠ "java/lang/invoke/MethodHandle" ∧ y.cls ≠ "java/lang/invoke/VarHandle") :
   ∃ v T' L, Stand p l e R s m args below meth c T' (locs ++ L) (cells + rm.cells) (slots + rm.slots) ∧ Q v T'.heap L ∧ ∀ t, Steps p.tables e below (T'.setTop { g with pc := g.pc + 3, stack := v.toList ++ rest }) t → Steps p.tables e below (T.setTop g) t := by
 obtain ⟨cq, q, q'⟩ := Exa.cell E
 obtain ⟨v, vm₁, ⟨T', L', k', n'⟩, -, X', ⟨Lc, hQ, q1, q2, q3⟩, st⟩ := X.privateBack hx (y := y) hown (mvT hZ w1) (mvT hZ w2) (mvT hZ w4) (Cond.privateMethod_at (mvP hZ w5 (args := #[]))) (mvT hZ wc) hy (backOf (W := W) hM hZ wc w3 hf hl) (g := g) hg hsize (Steps.refl _) (a := a) (by rw [eT]; exact q) q' (argsL := argsL) (rest := rest) hlen hstack hW hdg (fun _ _ => ⟨has, eT, hc, hs⟩)
 dsimp only [Pt.U, Pt.locs, Pt.cells, Pt.slots] at X' q1 q2 q3 st hQ
 subst q1 q2 q3
 exact ⟨v, T', Lc, X', hQ, fun t k => st.trans k⟩
theorem own_cu {p : Program} {l : Launch} {e : Env} {R : Room} {s : State} {m : MethodId} {args : Array Value} {below : List Frame} {meth : Method} {c : Code} {T : State} {locs : List Loc} {cells slots : Nat} {Z : State} {a0 : Array Value} {h : Heap} {own : String} {index : Nat} {y : MethodName} {bytes : ByteArray} {maxL : Nat} {ret : Option FieldType} {rm : Room} {as' : Array Value} {Q : Option Value → Heap → List Loc → Prop} {W : Nat} {K : String} (X : Stand p l e R s m args below meth c T locs cells slots) (hx : p.tables.exec = Jvm.exec) (hZ : Z.Warmed39 s.vm) (hown : s.vm.findClass own = some m.cls) {a : Addr} (hM : Ib l y [Cond.code y bytes maxL ret] rm as' Z h Q) (w1 : (Cond.methodLink own index y).before a0 Z = true) (w2 : (Cond.sameMethod y.cls y.cls y.name y.desc).before a0 Z = true) (w4 : (Cond.instanceMethod y).before a0 Z = true) (w5 : (Cond.superclass own y.cls).before a0 Z = true) (w3 : (Cond.initialized y.cls).before a0 Z = true) (wc : (Cond.code y bytes maxL ret).before a0 Z = true) (eT : T.heap = h) (E : Exa Z h a K) {g : JFrame} (hg : g.method = m) (hsize : g.locals.size = c.maxLocals) {argsL rest : List Value} (has : (.ref a :: argsL).toArray = as') (hlen : ∀ sig, parseMethodDescriptor y.desc = some sig → argsL.length = sig.parameters.length) (hstack : g.stack = argsL.reverse ++ .ref a :: rest) (hW : 2 * g.monitorRoom + (rest.map fun v => v.category).sum ≤ W) (hdg : decode c.code g.pc = .ok (.invokespecial index, 3)) (hf : rm.frames + 1 ≤ R.frames) (hl : W + (maxL + 11) + rm.locals ≤ R.locals) (hc : cells + rm.cells ≤ R.cells) (hs : slots + rm.slots ≤ R.slots) (hn : y.name ≠ "<init>") :
   ∃ v T' L, Stand p l e R s m args below meth c T' (locs ++ L) (cells + rm.cells) (slots + rm.slots) ∧ Q v T'.heap L ∧ ∀ t, Steps p.tables e below (T'.setTop { g with pc := g.pc + 3, stack := v.toList ++ rest }) t → Steps p.tables e below (T.setTop g) t := by
 obtain ⟨v, vm₁, ⟨T', L', k', n'⟩, -, X', ⟨Lc, hQ, q1, q2, q3⟩, st⟩ := superBack X hx hZ (y := y) hown w1 w2 w4 w5 hn (backOf (W := W) hM hZ wc w3 hf hl) eT (Ins.self E) (g := g) hg hsize wc (argsL := argsL) (rest := rest) hlen hstack hW hdg (fun _ _ => ⟨has, eT, hc, hs⟩)
 dsimp only [Pt.U, Pt.locs, Pt.cells, Pt.slots] at X' q1 q2 q3 st hQ
 subst q1 q2 q3
 exact ⟨v, T', Lc, X', hQ, fun t k => st.trans k⟩
abbrev vi (z : Int32) : Slot := .val (.int z)
abbrev vr (a : Addr) : Slot := .val (.ref a)
theorem Yg {p : Program} {l : Launch} {e : Env} {R : Room} {s : State} {m : MethodId} {as' : Array Value} {below : List Frame} {meth : Method} {c : Code} {T s₁ : State} {locs : List Loc} {cells slots ml : Nat} {Q : Option Value → Heap → List Loc → Prop} {h : Heap} (hNG : M1a p e below s s₁ m as' ml R Q) (hlk : meth.locks = false) (X : Stand p l e R s m as' below meth c T locs cells slots) (eT : T.heap = h) (hc : cells ≤ R.cells) (hs : slots ≤ R.slots)
   (K : ∀ fs, (∀ (f : JFrame) (acts : List Action), f.method = m → f.locked = none → f.entered = [] → (doReturn e (T.setTop f) acts none).1 = T.setFrames fs) → Steps p.tables e below (s₁.setTop (entryFrame m as' ml)) (T.setFrames fs)) (HQ : Q none h locs) : False := by
 subst eT
 obtain ⟨fs, hr, hrun, hended, hW, hsame⟩ := X.leave (v := none) (fun _ => rfl) hlk
 refine absurd ?_ hNG
 exact ⟨_, _, K fs hr, hrun, hended, _, _, rfl, HQ, ⟨_, rfl⟩, hW, hsame.mono hc hs⟩
theorem Zb {p : Program} {l : Launch} {e : Env} {R : Room} {s : State} {m : MethodId} {as' : Array Value} {below : List Frame} {meth : Method} {c : Code} {T s₁ : State} {locs : List Loc} {cells slots ml : Nat} {Q : Option Value → Heap → List Loc → Prop} {h : Heap} {ty : FieldType} (w : Value) (hNG : M1a p e below s s₁ m as' ml R Q) (hlk : meth.locks = false) (hret : meth.sig.returnType = some ty) (X : Stand p l e R s m as' below meth c T locs cells slots) (eT : T.heap = h) (hc : cells ≤ R.cells) (hs : slots ≤ R.slots)
   (K : ∀ fs, (∀ (f : JFrame) (acts : List Action), f.method = m → f.locked = none → f.entered = [] → (doReturn e (T.setTop f) acts (some w)).1 = T.setFrames fs) → Steps p.tables e below (s₁.setTop (entryFrame m as' ml)) (T.setFrames fs)) (HQ : Q (some w) h locs) : False := by
 subst eT
 obtain ⟨fs, hr, hrun, hended, hW, hsame⟩ := X.leave (v := some w) (fun h => by rw [hret] at h; cases h) hlk
 refine absurd ?_ hNG
 exact ⟨_, _, K fs hr, hrun, hended, _, _, rfl, HQ, ⟨_, rfl⟩, hW, hsame.mono hc hs⟩
abbrev Hb (f c s l : Nat) : Room := { frames := f, cells := c, slots := s, locals := l }
theorem Pa {p : Program} {l : Launch} {e : Env} {R : Room} {s : State} {m : MethodId} {A : Array Value} {below : List Frame} {meth : Method} {c : Code} {T t : State} {locs : List Loc} {a b pc : Nat} {cd : ByteArray} {ls : Array Slot} {st : List Value} (X : Stand p l e R s m A below meth c T locs a b) (hx : p.tables.exec = Jvm.exec) (hby : c.code = cd) {k : Fin 4} {v : Int32} (hd : decode cd pc = .ok (.iload_n k, 1)) (hl : ls[k.val]? = some (.val (.int v))) (hr : Za p e below m T (pc + 1) ls ((.int v) :: st) t) : Za p e below m T pc ls st t := XS.iloadN X.here hx rfl (hb hby hd) hl hr
theorem Wa {p : Program} {l : Launch} {e : Env} {R : Room} {s : State} {m : MethodId} {A : Array Value} {below : List Frame} {meth : Method} {c : Code} {T t : State} {locs : List Loc} {a b pc : Nat} {cd : ByteArray} {ls : Array Slot} {st : List Value} (X : Stand p l e R s m A below meth c T locs a b) (hx : p.tables.exec = Jvm.exec) (hby : c.code = cd) {k : Nat} {v : Int32} (hd : decode cd pc = .ok (.iload k, 2)) (hl : ls[k]? = some (.val (.int v))) (hr : Za p e below m T (pc + 2) ls ((.int v) :: st) t) : Za p e below m T pc ls st t := XS.iload X.here hx rfl (hb hby hd) hl hr
theorem Va {p : Program} {l : Launch} {e : Env} {R : Room} {s : State} {m : MethodId} {A : Array Value} {below : List Frame} {meth : Method} {c : Code} {T t : State} {locs : List Loc} {a b pc : Nat} {cd : ByteArray} {ls : Array Slot} {st : List Value} (X : Stand p l e R s m A below meth c T locs a b) (hx : p.tables.exec = Jvm.exec) (hby : c.code = cd) {k : Fin 4} {v : Value} (hd : decode cd pc = .ok (.aload_n k, 1)) (hl : ls[k.val]? = some (.val v)) (hv : v.isRef = true) (hr : Za p e below m T (pc + 1) ls (v :: st) t) : Za p e below m T pc ls st t := XS.aloadN X.here hx rfl (hb hby hd) hl hv hr
theorem Dd {p : Program} {l : Launch} {e : Env} {R : Room} {s : State} {m : MethodId} {A : Array Value} {below : List Frame} {meth : Method} {c : Code} {T t : State} {locs : List Loc} {a b pc : Nat} {cd : ByteArray} {ls : Array Slot} {st : List Value} (X : Stand p l e R s m A below meth c T locs a b) (hx : p.tables.exec = Jvm.exec) (hby : c.code = cd) {k : Nat} {v : Value} (hd : decode cd pc = .ok (.aload k, 2)) (hl : ls[k]? = some (.val v)) (hv : v.isRef = true) (hr : Za p e below m T (pc + 2) ls (v :: st) t) : Za p e below m T pc ls st t := XS.aload X.here hx rfl (hb hby hd) hl hv hr
theorem P1a {c : Int32} (h0 : ¬ c < 0) (h1 : ¬ (65535 : Int32) < c) : (((((c >>> ((0 : Int32) &&& 31)).toInt8.toInt32) &&& (255 : Int32)) <<< ((0 : Int32) &&& 31)) ||| ((((c >>> ((8 : Int32) &&& 31)).toInt8.toInt32) &&& (255 : Int32)) <<< ((8 : Int32) &&& 31))).toUInt32.toUInt16.toUInt32.toInt32 = c := by
 rw [Int32.lt_iff_toInt_lt] at h0 h1
 rw [(by decide : (0 : Int32).toInt = 0)] at h0
 rw [(by decide : (65535 : Int32).toInt = 65535)] at h1
 have a1 := c_ishr c 0 0 (by decide)
 have a2 := c_ishr c 8 8 (by decide)
 generalize c >>> ((0 : Int32) &&& 31) = x at *
 generalize c >>> ((8 : Int32) &&& 31) = y at *
 have b1 := c_i2b x
 have b2 := c_i2b y
 generalize x.toInt8.toInt32 = x1 at *
 generalize y.toInt8.toInt32 = y1 at *
 have d1 := c_mask x1 255 8 (by decide) (by decide)
 have d2 := c_mask y1 255 8 (by decide) (by decide)
 generalize x1 &&& 255 = x2 at *
 generalize y1 &&& 255 = y2 at *
 have e1 := c_ishl x2 0 0 (by decide)
 have e2 := c_ishl y2 8 8 (by decide)
 generalize x2 <<< ((0 : Int32) &&& 31) = x3 at *
 generalize y2 <<< ((8 : Int32) &&& 31) = y3 at *
 have r1 := rng32 x3
 have r2 := rng32 y3
 have f := c_or' x3 y3 8 (by decide) 256 (by decide) (by omega) (by omega) (by omega)
 have g := c_i2c (x3 ||| y3)
 apply Int32.toInt_inj.mp
 have r3 := rng32 (x3 ||| y3)
 omega
theorem Bl (x : Int32) : x.toInt8.toInt32.toInt8.toInt32 = x.toInt8.toInt32 := by
 have a := c_i2b x
 have b := c_i2b x.toInt8.toInt32
 apply Int32.toInt_inj.mp
 omega
theorem Pd (x : Int32) : nar .byte (x.toInt8.toInt32) = x.toInt8.toInt32 := Bl x
def EV (Z : State) (Ra : Addr) (Ya : Addr) (Ia : Addr) (Ua : Addr) (Ka : Addr) (Ga : Addr) (Ma : Addr) (Da : Int32) (Aa : Value) : Prop := Sta Z Z.heap "com/example/attenuation/attenuation/core/Outcome$Status" "DENIED" "Lcom/example/attenuation/attenuation/core/Outcome$Status;" (.ref Ra) ∧ Exa Z Z.heap Ra "com/example/attenuation/attenuation/core/Outcome$Status" ∧ Sta Z Z.heap "com/example/attenuation/attenuation/core/Outcome$Status" "DONE" "Lcom/example/attenuation/attenuation/core/Outcome$Status;" (.ref Ya) ∧ Exa Z Z.heap Ya "com/example/attenuation/attenuation/core/Outcome$Status" ∧ Sta Z Z.heap "com/example/attenuation/attenuation/core/Outcome$Status" "UNREACHABLE" "Lcom/example/attenuation/attenuation/core/Outcome$Status;" (.ref Ia) ∧ Exa Z Z.heap Ia "com/example/attenuation/attenuation/core/Outcome$Status" ∧ Sta Z Z.heap "com/example/attenuation/attenuation/core/Outcome$Status" "FAILED" "Lcom/example/attenuation/attenuation/core/Outcome$Status;" (.ref Ua) ∧ Exa Z Z.heap Ua "com/example/attenuation/attenuation/core/Outcome$Status" ∧ Sta Z Z.heap "com/example/attenuation/attenuation/core/Outcome$Status" "UNAVAILABLE" "Lcom/example/attenuation/attenuation/core/Outcome$Status;" (.ref Ka) ∧ Exa Z Z.heap Ka "com/example/attenuation/attenuation/core/Outcome$Status" ∧ Sta Z Z.heap "java/nio/charset/StandardCharsets" "UTF_8" "Ljava/nio/charset/Charset;" (.ref Ga) ∧ Exa Z Z.heap Ga "sun/nio/cs/UTF_8" ∧ Sta Z Z.heap "sun/nio/cs/UTF_8" "INSTANCE" "Lsun/nio/cs/UTF_8;" (.ref Ma) ∧ Exa Z Z.heap Ma "sun/nio/cs/UTF_8" ∧ Sta Z Z.heap "java/lang/String" "COMPACT_STRINGS" "Z" (.int Da) ∧ ¬ (Da = (0 : Int32)) ∧ Sta Z Z.heap "jdk/internal/util/Preconditions" "SIOOBE_FORMATTER" "Ljava/util/function/BiFunction;" Aa ∧ Aa.isRef = true ∧ Sta Z Z.heap "java/lang/StringUTF16" "$assertionsDisabled" "Z" (.int 1) ∧ Sta Z Z.heap "java/lang/StringUTF16" "HI_BYTE_SHIFT" "I" (.int 0) ∧ Sta Z Z.heap "java/lang/StringUTF16" "LO_BYTE_SHIFT" "I" (.int 8) ∧ Ga = Ma
theorem K6 (m : MethodId) (x0 : Int32)  : entryFrame m #[(.int x0)] 1 = mkF m 0 #[.val (.int x0)] [] := by first | (simp [entryFrame, mkF, argsToLocals, Value.category]; done) | rfl
abbrev Wt : ByteArray := jdk_52_method_2_code
theorem Av : decode Wt 0 = .ok (.iload_n 0, 1) := by decide +kernel
theorem Bv : decode Wt 1 = .ok (.invokestatic 11, 3) := by decide +kernel
abbrev Bg : ByteArray := jdk_52_method_3_code
theorem Dv : decode Bg 0 = .ok (.iload_n 0, 1) := by decide +kernel
theorem Gv : decode Bg 1 = .ok (.ifCond .ge 11, 3) := by decide +kernel
theorem Yt : decode Bg 12 = .ok (.iload_n 0, 1) := by decide +kernel
theorem Zt : decode Bg 13 = .ok (.ldc 20, 2) := by decide +kernel
theorem Au : decode Bg 15 = .ok (.if_icmp .lt 40, 3) := by decide +kernel
theorem Bu : decode Bg 55 = .ok (.iload_n 0, 1) := by decide +kernel
theorem Du : decode Bg 56 = .ok (.iconst 1, 1) := by decide +kernel
theorem Gu : decode Bg 57 = .ok (.ishl, 1) := by decide +kernel
theorem Uxa : ((2 : Int32) <<< ((1 : Int32) &&& 31)) = (4 : Int32) := by decide
theorem Hu : decode Bg 58 = .ok (.ireturn, 1) := by decide +kernel
theorem Bb : plainName "java/lang/StringUTF16" = true := by first | (simp [plainName, overriddenIn]; done) | decide +kernel
abbrev Hca : MethodName := ⟨"java/lang/StringUTF16", "newBytesLength", "(I)I"⟩
theorem rm_f1 (l : Launch) (Z : State) (a0 : Array Value) (hw : Pb a0 Z) (ws : List Jvm.Cond) (Ra Ya Ia Ua Ka Ga Ma : Addr) (Da : Int32) (Aa : Value) (h0 : Heap) (n0 : Nat) (O0 : Old Z n0 h0) (hE : EV Z Ra Ya Ia Ua Ka Ga Ma Da Aa) :
   Ib l Hca (Jvm.Cond.code Hca jdk_52_method_3_code 1 (some .int) :: ws) (Hb 0 0 0 0) #[(.int 2)] Z h0 (fun v h L => v = some (.int 4) ∧ Fr n0 L ∧ h = h0) := by
 refine Db (plainFor_of_name Bb) n0 [] fun p e s m below meth c s₁ hx hby hml hown hnm hret hlk X00 e00 hZ N00 K00 hNG => ?_
 have k00 : Ab p e below m s₁ #[(.int 2)] 1 s₁ 0 #[vi 2] [] := fun t k => castTop (K6 m (2 : Int32) ) k
 have k10 : Ab p e below m s₁ #[(.int 2)] 1 s₁ 58 #[vi 2] [(.int 4)] := by
  intro t k
  refine k00 t ?_
  refine Pa X00 hx hby Dv rfl ?_
  refine XS.ifYes X00.here hx rfl (pc0 := 1) (pc' := 12) rfl (hb hby Gv) rfl ((if0 _ _).trans (flt (by decide : ¬ ((2 : Int32) < (0 : Int32)))).2.1) (by decide) (by decide) ?_
  refine Pa X00 hx hby Yt rfl ?_
  refine X00.ldcI hx hown (mvT hZ (Ba hw 92 rfl)) rfl (hb hby Zt) ?_
  refine XS.icmpYes X00.here hx rfl (pc0 := 15) (pc' := 55) rfl (hb hby Au) rfl (tlt (by decide : (2 : Int32) < (1073741823 : Int32))).1 (by decide) (by decide) ?_
  refine Pa X00 hx hby Bu rfl ?_
  refine XS.iconst X00.here hx rfl (hb hby Du) ?_
  refine XS.ishl X00.here hx rfl (hb hby Gu) rfl ?_
  show Za p e below m s₁ 58 #[vi 2] [(.int ((2 : Int32) <<< ((1 : Int32) &&& 31)))] t
  rw [Uxa]
  exact k
 exact Zb (.int 4) hNG hlk hret X00 e00 (by decide) (by decide) (fun fs hr => k10 _ (retOut X00 hx (t := .int) hret rfl (Or.inl ⟨rfl, Or.inl rfl, _, rfl⟩) (hb hby Hu) hr)) ⟨rfl, N00, rfl⟩
theorem Gza : parseMethodDescriptor "(I)I" = some ⟨[.int], some .int⟩ := by decide +kernel
theorem Hv : decode Wt 4 = .ok (.newarray .byte, 2) := by decide +kernel
theorem Iv : decode Wt 6 = .ok (.areturn, 1) := by decide +kernel
abbrev Ica : MethodName := ⟨"java/lang/StringUTF16", "newBytesFor", "(I)[B"⟩
theorem rm_nb2 (l : Launch) (Z : State) (a0 : Array Value) (hw : Pb a0 Z) (ws : List Jvm.Cond) (Ra Ya Ia Ua Ka Ga Ma : Addr) (Da : Int32) (Aa : Value) (h0 : Heap) (n0 : Nat) (O0 : Old Z n0 h0) (hE : EV Z Ra Ya Ia Ua Ka Ga Ma Da Aa) :
   Ib l Ica (Jvm.Cond.code Ica jdk_52_method_2_code 1 (some (.array .byte)) :: ws) (Hb 1 1 4 12) #[(.int 2)] Z h0 (fun v h L => ∃ (b : Addr) (k : ClassId), v = some (.ref b) ∧ Fr n0 L ∧ Old Z n0 h ∧ Keep h0 h [] ∧ n0 ≤ b ∧ h0.size ≤ b ∧ Arv Z h b k .byte (4 : Int32) [(.int 0), (.int 0), (.int 0), (.int 0)] (.int 0) ∧ Exa Z h b "[B") := by
 refine Db (plainFor_of_name Bb) n0 [] fun p e s m below meth c s₁ hx hby hml hown hnm hret hlk X00 e00 hZ N00 K00 hNG => ?_
 have k00 : Ab p e below m s₁ #[(.int 2)] 1 s₁ 0 #[vi 2] [] := fun t k => castTop (K6 m (2 : Int32) ) k
 obtain ⟨v10, T10, Lc10, X10, hQ10, st10⟩ := Ub X00 hx hZ hown (rm_f1 l Z a0 hw []  _ _ _ _ _ _ _ _ _ h0 n0 O0 hE ) (Ba hw 89 rfl) (Ba hw 90 rfl) (Ba hw 87 rfl) (Ba hw 91 rfl) e00 (g := (mkF m 1 #[vi 2] [(.int 2)])) rfl (by rw [hml]; rfl) (argsL := [(.int 2)]) (rest := []) rfl (lenOf Gza rfl) rfl (W := 0) (by show 2 * 0 + _ ≤ _; exact Nat.le_of_eq rfl) (hb hby Bv) (by decide) (by decide) (by decide) (by decide) (by decide)
 obtain ⟨rfl, N10q, hp10⟩ := hQ10
 have N10 := Fr.app N00 N10q
 obtain ⟨T11, h11, c11, X11, e11, E11, A11, Ex11, st11⟩ := newPE X10 hx hZ (Ba hw 10 rfl) hp10 (g := (mkF m 4 #[vi 2] [(.int 4)])) rfl (hb hby Hv) rfl (by decide) (cap := 4) (by decide) (by decide) (by decide) (by decide) (ad := "[B") (by decide)
 obtain ⟨b11, g11⟩ : ∃ z, z = h0.size := ⟨_, rfl⟩
 rw [← g11] at A11 st11 Ex11
 have O11 := O0.ext E11
 have g_b11 : n0 ≤ b11 := Nat.le_trans (Nat.le_of_eq O0.1.symm) (Nat.le_trans O0.2.1 (Nat.le_of_eq g11.symm))
 have s_b11 : h0.size ≤ b11 := Nat.le_trans K00.1 (Nat.le_of_eq g11.symm)
 have K11 := K00.ext E11
 have V11 : Arv Z h11 b11 c11 .byte (4 : Int32) [(.int 0), (.int 0), (.int 0), (.int 0)] (.int 0) := (Arv.new A11 (by decide)).pad (pad_rep [] (.int 0) 4)
 have lt_b11 := V11.lt
 have k12 : Ab p e below m s₁ #[(.int 2)] 1 T11 6 #[vi 2] [(.ref b11)] := by
  intro t k
  refine k00 t ?_
  refine Pa X00 hx hby Av rfl ?_
  refine st10 _ ?_
  refine st11 _ ?_
  exact k
 exact Zb (.ref b11) hNG hlk hret X11 e11 (by decide) (by decide) (fun fs hr => k12 _ (retOut X11 hx (t := (.array .byte)) hret rfl (Or.inr (Or.inr (Or.inr (Or.inr ⟨rfl, rfl, rfl⟩)))) (hb hby Iv) hr)) ⟨b11, c11, rfl, N10, O11, K11, g_b11, s_b11, V11, Ex11⟩
theorem Kv (m : MethodId) (x0 : Addr) (x1 : Int32) (x2 : Int32)  : entryFrame m #[(.ref x0), (.int x1), (.int x2)] 3 = mkF m 0 #[.val (.ref x0), .val (.int x1), .val (.int x2)] [] := by first | (simp [entryFrame, mkF, argsToLocals, Value.category]; done) | rfl
abbrev Yb : ByteArray := jdk_52_method_4_code
theorem Uf : decode Yb 0 = .ok (.getstatic 44, 3) := by decide +kernel
theorem Vf : decode Yb 3 = .ok (.ifCond .ne 25, 3) := by decide +kernel
theorem Ke : decode Yb 28 = .ok (.iload_n 1, 1) := by decide +kernel
theorem Le : decode Yb 29 = .ok (.iconst 1, 1) := by decide +kernel
theorem Me : decode Yb 30 = .ok (.ishl, 1) := by decide +kernel
theorem R0a : ((0 : Int32) <<< ((1 : Int32) &&& 31)) = (0 : Int32) := by decide
theorem Pe : decode Yb 31 = .ok (.istore_n 1, 1) := by decide +kernel
theorem Re : decode Yb 32 = .ok (.aload_n 0, 1) := by decide +kernel
theorem Ue : decode Yb 33 = .ok (.iload_n 1, 1) := by decide +kernel
theorem Ve : decode Yb 34 = .ok (.iinc 1 1, 3) := by decide +kernel
theorem Mh : ((0 : Int32) + (1 : Int32)) = (1 : Int32) := by decide
theorem We : decode Yb 37 = .ok (.iload_n 2, 1) := by decide +kernel
theorem Ye : decode Yb 38 = .ok (.getstatic 59, 3) := by decide +kernel
theorem Ze : decode Yb 41 = .ok (.ishr, 1) := by decide +kernel
theorem Af : decode Yb 42 = .ok (.i2b, 1) := by decide +kernel
theorem Bf : decode Yb 43 = .ok (.bastore, 1) := by decide +kernel
theorem Df : decode Yb 44 = .ok (.aload_n 0, 1) := by decide +kernel
theorem Gf : decode Yb 45 = .ok (.iload_n 1, 1) := by decide +kernel
theorem Hf : decode Yb 46 = .ok (.iload_n 2, 1) := by decide +kernel
theorem Kf : decode Yb 47 = .ok (.getstatic 63, 3) := by decide +kernel
theorem Lf : decode Yb 50 = .ok (.ishr, 1) := by decide +kernel
theorem Mf : decode Yb 51 = .ok (.i2b, 1) := by decide +kernel
theorem Pf : decode Yb 52 = .ok (.bastore, 1) := by decide +kernel
theorem Rf : decode Yb 53 = .ok (.return_, 1) := by decide +kernel
abbrev Ut : MethodName := ⟨"java/lang/StringUTF16", "putChar", "([BII)V"⟩
theorem M5a (l : Launch) (Z : State) (a0 : Array Value) (hw : Pb a0 Z) (ws : List Jvm.Cond) (q0 : Addr) (k0 : ClassId) (cq x0 x1 x2 x3 : Int32) (Ra Ya Ia Ua Ka Ga Ma : Addr) (Da : Int32) (Aa : Value) (h0 : Heap) (n0 : Nat) (O0 : Old Z n0 h0) (hE : EV Z Ra Ya Ia Ua Ka Ga Ma Da Aa) (P0 : Arv Z h0 q0 k0 .byte (4 : Int32) [(.int x0), (.int x1), (.int x2), (.int x3)] (.int 0)) (g_q0 : n0 ≤ q0) :
   Ib l Ut (Jvm.Cond.code Ut jdk_52_method_4_code 3 none :: ws) (Hb 0 0 0 0) #[(.ref q0), (.int 0), (.int cq)] Z h0 (fun v h L => v = none ∧ Fr n0 L ∧ Old Z n0 h ∧ Keep h0 h [q0] ∧ Arv Z h q0 k0 .byte (4 : Int32) [(.int ((cq >>> ((0 : Int32) &&& 31)).toInt8.toInt32)), (.int ((cq >>> ((8 : Int32) &&& 31)).toInt8.toInt32)), (.int x2), (.int x3)] (.int 0)) := by
 refine Db (plainFor_of_name Bb) n0 [q0] fun p e s m below meth c s₁ hx hby hml hown hnm hret hlk X00 e00 hZ N00 K00 hNG => ?_
 have k00 : Ab p e below m s₁ #[(.ref q0), (.int 0), (.int cq)] 3 s₁ 0 #[vr q0, vi 0, vi cq] [] := fun t k => castTop (Kv m q0 (0 : Int32) cq ) k
 obtain ⟨_, _, _, _, _, _, _, _, _, _, _, _, _, _, _, _, _, _, Dc, Id, Kd, _⟩ := id hE
 obtain ⟨T10, X10, e10, st10⟩ := getS2 X00 hx hZ hown (host := "") (Or.inl (Ba hw 117 rfl)) Via.refl e00 (Dc.ext O0.2) (g := (mkF m 0 #[vr q0, vi 0, vi cq] [])) rfl (hb hby Uf)
 obtain ⟨T11, X11, e11, st11⟩ := getS2 X10 hx hZ hown (host := "") (Or.inl (Ba hw 118 rfl)) Via.refl e10 (Id.ext O0.2) (g := (mkF m 38 #[vr q0, vi 1, vi cq] [(.int cq), (.int 0), (.ref q0)])) rfl (hb hby Ye)
 obtain ⟨cl12, Ar12, q12, Sz12, Nn12, Hs12, Gf12⟩ := id P0
 have hin13 := inb_of (j := 0) Sz12 ⟨by decide, by decide⟩
 obtain ⟨T14, h14, X14, e14, W14, st14⟩ := stB X11 hx hZ e11 Ar12 (j := 0) hin13 (g := (mkF m 43 #[vr q0, vi 1, vi cq] [(.int ((cq >>> ((0 : Int32) &&& 31)).toInt8.toInt32)), (.int 0), (.ref q0)])) rfl rfl (hb hby Bf)
 have V14 : Arv Z h14 q0 k0 .byte (4 : Int32) [(.int ((cq >>> ((0 : Int32) &&& 31)).toInt8.toInt32)), (.int x1), (.int x2), (.int x3)] (.int 0) := by
   have q := Arv.set Ar12 q12 Sz12 Nn12 Hs12 Gf12 (fits_nar_byte _) W14 0 rfl (Nat.le_of_ble_eq_true rfl)
   first | exact q | (simp only [Bl, Pd] at q; exact q)
 have N14 := Fr.snoc X14 N00 g_q0
 have O14 := O0.wr W14 g_q0
 have K14 := K00.wr W14 (Or.inl (List.mem_of_getElem? (i := 0) rfl))
 obtain ⟨T15, X15, e15, st15⟩ := getS2 X14 hx hZ hown (host := "") (Or.inl (Ba hw 119 rfl)) Via.refl e14 (Kd.ext O14.2) (g := (mkF m 47 #[vr q0, vi 1, vi cq] [(.int cq), (.int 1), (.ref q0)])) rfl (hb hby Kf)
 obtain ⟨cl16, Ar16, q16, Sz16, Nn16, Hs16, Gf16⟩ := id V14
 have hin17 := inb_of (j := 1) Sz16 ⟨by decide, by decide⟩
 obtain ⟨T18, h18, X18, e18, W18, st18⟩ := stB X15 hx hZ e15 Ar16 (j := 1) hin17 (g := (mkF m 52 #[vr q0, vi 1, vi cq] [(.int ((cq >>> ((8 : Int32) &&& 31)).toInt8.toInt32)), (.int 1), (.ref q0)])) rfl rfl (hb hby Pf)
 have V18 : Arv Z h18 q0 k0 .byte (4 : Int32) [(.int ((cq >>> ((0 : Int32) &&& 31)).toInt8.toInt32)), (.int ((cq >>> ((8 : Int32) &&& 31)).toInt8.toInt32)), (.int x2), (.int x3)] (.int 0) := by
   have q := Arv.set Ar16 q16 Sz16 Nn16 Hs16 Gf16 (fits_nar_byte _) W18 1 rfl (Nat.le_of_ble_eq_true rfl)
   first | exact q | (simp only [Bl, Pd] at q; exact q)
 have N18 := Fr.snoc X18 N14 g_q0
 have O18 := O14.wr W18 g_q0
 have K18 := K14.wr W18 (Or.inl (List.mem_of_getElem? (i := 0) rfl))
 have k19 : Ab p e below m s₁ #[(.ref q0), (.int 0), (.int cq)] 3 T18 53 #[vr q0, vi 1, vi cq] [] := by
  intro t k
  refine k00 t ?_
  refine st10 _ ?_
  refine XS.ifYes X10.here hx rfl (pc0 := 3) (pc' := 28) rfl (hb hby Vf) rfl ((if0 _ _).trans (feq (by decide : ¬ ((1 : Int32) = (0 : Int32)))).2) (by decide) (by decide) ?_
  refine Pa X10 hx hby Ke rfl ?_
  refine XS.iconst X10.here hx rfl (hb hby Le) ?_
  refine XS.ishl X10.here hx rfl (hb hby Me) rfl ?_
  show Za p e below m T10 31 #[vr q0, vi 0, vi cq] [(.int ((0 : Int32) <<< ((1 : Int32) &&& 31)))] t
  rw [R0a]
  refine XS.istoreN X10.here hx rfl (hb hby Pe) rfl (l' := #[vr q0, vi 0, vi cq]) rfl ?_
  refine Va X10 hx hby Re rfl rfl ?_
  refine Pa X10 hx hby Ue rfl ?_
  refine XS.iinc X10.here hx rfl (hb hby Ve) rfl (l' := #[vr q0, vi ((0 : Int32) + (1 : Int32)), vi cq]) rfl ?_
  rw [Mh]
  refine Pa X10 hx hby We rfl ?_
  refine st11 _ ?_
  refine XS.ishr X11.here hx rfl (hb hby Ze) rfl ?_
  refine XS.i2b X11.here hx rfl (hb hby Af) rfl ?_
  refine st14 _ ?_
  refine Va X14 hx hby Df rfl rfl ?_
  refine Pa X14 hx hby Gf rfl ?_
  show Za p e below m T14 46 #[vr q0, vi 1, vi cq] [(.int 1), (.ref q0)] t
  refine Pa X14 hx hby Hf rfl ?_
  refine st15 _ ?_
  refine XS.ishr X15.here hx rfl (hb hby Lf) rfl ?_
  refine XS.i2b X15.here hx rfl (hb hby Mf) rfl ?_
  refine st18 _ ?_
  exact k
 exact Yg hNG hlk X18 e18 (by decide) (by decide) (fun fs hr => k19 _ (X18.returnOut hx hret (hb hby Rf) hr)) ⟨rfl, N18, O18, K18, V18⟩
theorem Kwa : ((1 : Int32) <<< ((1 : Int32) &&& 31)) = (2 : Int32) := by decide
theorem Lv : ((2 : Int32) + (1 : Int32)) = (3 : Int32) := by decide
theorem P5a (l : Launch) (Z : State) (a0 : Array Value) (hw : Pb a0 Z) (ws : List Jvm.Cond) (q0 : Addr) (k0 : ClassId) (cq x0 x1 x2 x3 : Int32) (Ra Ya Ia Ua Ka Ga Ma : Addr) (Da : Int32) (Aa : Value) (h0 : Heap) (n0 : Nat) (O0 : Old Z n0 h0) (hE : EV Z Ra Ya Ia Ua Ka Ga Ma Da Aa) (P0 : Arv Z h0 q0 k0 .byte (4 : Int32) [(.int x0), (.int x1), (.int x2), (.int x3)] (.int 0)) (g_q0 : n0 ≤ q0) :
   Ib l Ut (Jvm.Cond.code Ut jdk_52_method_4_code 3 none :: ws) (Hb 0 0 0 0) #[(.ref q0), (.int 1), (.int cq)] Z h0 (fun v h L => v = none ∧ Fr n0 L ∧ Old Z n0 h ∧ Keep h0 h [q0] ∧ Arv Z h q0 k0 .byte (4 : Int32) [(.int x0), (.int x1), (.int ((cq >>> ((0 : Int32) &&& 31)).toInt8.toInt32)), (.int ((cq >>> ((8 : Int32) &&& 31)).toInt8.toInt32))] (.int 0)) := by
 refine Db (plainFor_of_name Bb) n0 [q0] fun p e s m below meth c s₁ hx hby hml hown hnm hret hlk X00 e00 hZ N00 K00 hNG => ?_
 have k00 : Ab p e below m s₁ #[(.ref q0), (.int 1), (.int cq)] 3 s₁ 0 #[vr q0, vi 1, vi cq] [] := fun t k => castTop (Kv m q0 (1 : Int32) cq ) k
 obtain ⟨_, _, _, _, _, _, _, _, _, _, _, _, _, _, _, _, _, _, Dc, Id, Kd, _⟩ := id hE
 obtain ⟨T10, X10, e10, st10⟩ := getS2 X00 hx hZ hown (host := "") (Or.inl (Ba hw 117 rfl)) Via.refl e00 (Dc.ext O0.2) (g := (mkF m 0 #[vr q0, vi 1, vi cq] [])) rfl (hb hby Uf)
 obtain ⟨T11, X11, e11, st11⟩ := getS2 X10 hx hZ hown (host := "") (Or.inl (Ba hw 118 rfl)) Via.refl e10 (Id.ext O0.2) (g := (mkF m 38 #[vr q0, vi 3, vi cq] [(.int cq), (.int 2), (.ref q0)])) rfl (hb hby Ye)
 obtain ⟨cl12, Ar12, q12, Sz12, Nn12, Hs12, Gf12⟩ := id P0
 have hin13 := inb_of (j := 2) Sz12 ⟨by decide, by decide⟩
 obtain ⟨T14, h14, X14, e14, W14, st14⟩ := stB X11 hx hZ e11 Ar12 (j := 2) hin13 (g := (mkF m 43 #[vr q0, vi 3, vi cq] [(.int ((cq >>> ((0 : Int32) &&& 31)).toInt8.toInt32)), (.int 2), (.ref q0)])) rfl rfl (hb hby Bf)
 have V14 : Arv Z h14 q0 k0 .byte (4 : Int32) [(.int x0), (.int x1), (.int ((cq >>> ((0 : Int32) &&& 31)).toInt8.toInt32)), (.int x3)] (.int 0) := by
   have q := Arv.set Ar12 q12 Sz12 Nn12 Hs12 Gf12 (fits_nar_byte _) W14 2 rfl (Nat.le_of_ble_eq_true rfl)
   first | exact q | (simp only [Bl, Pd] at q; exact q)
 have N14 := Fr.snoc X14 N00 g_q0
 have O14 := O0.wr W14 g_q0
 have K14 := K00.wr W14 (Or.inl (List.mem_of_getElem? (i := 0) rfl))
 obtain ⟨T15, X15, e15, st15⟩ := getS2 X14 hx hZ hown (host := "") (Or.inl (Ba hw 119 rfl)) Via.refl e14 (Kd.ext O14.2) (g := (mkF m 47 #[vr q0, vi 3, vi cq] [(.int cq), (.int 3), (.ref q0)])) rfl (hb hby Kf)
 obtain ⟨cl16, Ar16, q16, Sz16, Nn16, Hs16, Gf16⟩ := id V14
 have hin17 := inb_of (j := 3) Sz16 ⟨by decide, by decide⟩
 obtain ⟨T18, h18, X18, e18, W18, st18⟩ := stB X15 hx hZ e15 Ar16 (j := 3) hin17 (g := (mkF m 52 #[vr q0, vi 3, vi cq] [(.int ((cq >>> ((8 : Int32) &&& 31)).toInt8.toInt32)), (.int 3), (.ref q0)])) rfl rfl (hb hby Pf)
 have V18 : Arv Z h18 q0 k0 .byte (4 : Int32) [(.int x0), (.int x1), (.int ((cq >>> ((0 : Int32) &&& 31)).toInt8.toInt32)), (.int ((cq >>> ((8 : Int32) &&& 31)).toInt8.toInt32))] (.int 0) := by
   have q := Arv.set Ar16 q16 Sz16 Nn16 Hs16 Gf16 (fits_nar_byte _) W18 3 rfl (Nat.le_of_ble_eq_true rfl)
   first | exact q | (simp only [Bl, Pd] at q; exact q)
 have N18 := Fr.snoc X18 N14 g_q0
 have O18 := O14.wr W18 g_q0
 have K18 := K14.wr W18 (Or.inl (List.mem_of_getElem? (i := 0) rfl))
 have k19 : Ab p e below m s₁ #[(.ref q0), (.int 1), (.int cq)] 3 T18 53 #[vr q0, vi 3, vi cq] [] := by
  intro t k
  refine k00 t ?_
  refine st10 _ ?_
  refine XS.ifYes X10.here hx rfl (pc0 := 3) (pc' := 28) rfl (hb hby Vf) rfl ((if0 _ _).trans (feq (by decide : ¬ ((1 : Int32) = (0 : Int32)))).2) (by decide) (by decide) ?_
  refine Pa X10 hx hby Ke rfl ?_
  refine XS.iconst X10.here hx rfl (hb hby Le) ?_
  refine XS.ishl X10.here hx rfl (hb hby Me) rfl ?_
  show Za p e below m T10 31 #[vr q0, vi 1, vi cq] [(.int ((1 : Int32) <<< ((1 : Int32) &&& 31)))] t
  rw [Kwa]
  refine XS.istoreN X10.here hx rfl (hb hby Pe) rfl (l' := #[vr q0, vi 2, vi cq]) rfl ?_
  refine Va X10 hx hby Re rfl rfl ?_
  refine Pa X10 hx hby Ue rfl ?_
  refine XS.iinc X10.here hx rfl (hb hby Ve) rfl (l' := #[vr q0, vi ((2 : Int32) + (1 : Int32)), vi cq]) rfl ?_
  rw [Lv]
  refine Pa X10 hx hby We rfl ?_
  refine st11 _ ?_
  refine XS.ishr X11.here hx rfl (hb hby Ze) rfl ?_
  refine XS.i2b X11.here hx rfl (hb hby Af) rfl ?_
  refine st14 _ ?_
  refine Va X14 hx hby Df rfl rfl ?_
  refine Pa X14 hx hby Gf rfl ?_
  show Za p e below m T14 46 #[vr q0, vi 3, vi cq] [(.int 3), (.ref q0)] t
  refine Pa X14 hx hby Hf rfl ?_
  refine st15 _ ?_
  refine XS.ishr X15.here hx rfl (hb hby Lf) rfl ?_
  refine XS.i2b X15.here hx rfl (hb hby Mf) rfl ?_
  refine st18 _ ?_
  exact k
 exact Yg hNG hlk X18 e18 (by decide) (by decide) (fun fs hr => k19 _ (X18.returnOut hx hret (hb hby Rf) hr)) ⟨rfl, N18, O18, K18, V18⟩
theorem R4a : ((3 : Int32) <<< ((1 : Int32) &&& 31)) = (6 : Int32) := by decide
theorem rm_f2 (l : Launch) (Z : State) (a0 : Array Value) (hw : Pb a0 Z) (ws : List Jvm.Cond) (Ra Ya Ia Ua Ka Ga Ma : Addr) (Da : Int32) (Aa : Value) (h0 : Heap) (n0 : Nat) (O0 : Old Z n0 h0) (hE : EV Z Ra Ya Ia Ua Ka Ga Ma Da Aa) :
   Ib l Hca (Jvm.Cond.code Hca jdk_52_method_3_code 1 (some .int) :: ws) (Hb 0 0 0 0) #[(.int 3)] Z h0 (fun v h L => v = some (.int 6) ∧ Fr n0 L ∧ h = h0) := by
 refine Db (plainFor_of_name Bb) n0 [] fun p e s m below meth c s₁ hx hby hml hown hnm hret hlk X00 e00 hZ N00 K00 hNG => ?_
 have k00 : Ab p e below m s₁ #[(.int 3)] 1 s₁ 0 #[vi 3] [] := fun t k => castTop (K6 m (3 : Int32) ) k
 have k10 : Ab p e below m s₁ #[(.int 3)] 1 s₁ 58 #[vi 3] [(.int 6)] := by
  intro t k
  refine k00 t ?_
  refine Pa X00 hx hby Dv rfl ?_
  refine XS.ifYes X00.here hx rfl (pc0 := 1) (pc' := 12) rfl (hb hby Gv) rfl ((if0 _ _).trans (flt (by decide : ¬ ((3 : Int32) < (0 : Int32)))).2.1) (by decide) (by decide) ?_
  refine Pa X00 hx hby Yt rfl ?_
  refine X00.ldcI hx hown (mvT hZ (Ba hw 92 rfl)) rfl (hb hby Zt) ?_
  refine XS.icmpYes X00.here hx rfl (pc0 := 15) (pc' := 55) rfl (hb hby Au) rfl (tlt (by decide : (3 : Int32) < (1073741823 : Int32))).1 (by decide) (by decide) ?_
  refine Pa X00 hx hby Bu rfl ?_
  refine XS.iconst X00.here hx rfl (hb hby Du) ?_
  refine XS.ishl X00.here hx rfl (hb hby Gu) rfl ?_
  show Za p e below m s₁ 58 #[vi 3] [(.int ((3 : Int32) <<< ((1 : Int32) &&& 31)))] t
  rw [R4a]
  exact k
 exact Zb (.int 6) hNG hlk hret X00 e00 (by decide) (by decide) (fun fs hr => k10 _ (retOut X00 hx (t := .int) hret rfl (Or.inl ⟨rfl, Or.inl rfl, _, rfl⟩) (hb hby Hu) hr)) ⟨rfl, N00, rfl⟩
theorem R1a (l : Launch) (Z : State) (a0 : Array Value) (hw : Pb a0 Z) (ws : List Jvm.Cond) (Ra Ya Ia Ua Ka Ga Ma : Addr) (Da : Int32) (Aa : Value) (h0 : Heap) (n0 : Nat) (O0 : Old Z n0 h0) (hE : EV Z Ra Ya Ia Ua Ka Ga Ma Da Aa) :
   Ib l Ica (Jvm.Cond.code Ica jdk_52_method_2_code 1 (some (.array .byte)) :: ws) (Hb 1 1 6 12) #[(.int 3)] Z h0 (fun v h L => ∃ (b : Addr) (k : ClassId), v = some (.ref b) ∧ Fr n0 L ∧ Old Z n0 h ∧ Keep h0 h [] ∧ n0 ≤ b ∧ h0.size ≤ b ∧ Arv Z h b k .byte (6 : Int32) [(.int 0), (.int 0), (.int 0), (.int 0), (.int 0), (.int 0)] (.int 0) ∧ Exa Z h b "[B") := by
 refine Db (plainFor_of_name Bb) n0 [] fun p e s m below meth c s₁ hx hby hml hown hnm hret hlk X00 e00 hZ N00 K00 hNG => ?_
 have k00 : Ab p e below m s₁ #[(.int 3)] 1 s₁ 0 #[vi 3] [] := fun t k => castTop (K6 m (3 : Int32) ) k
 obtain ⟨v10, T10, Lc10, X10, hQ10, st10⟩ := Ub X00 hx hZ hown (rm_f2 l Z a0 hw []  _ _ _ _ _ _ _ _ _ h0 n0 O0 hE ) (Ba hw 89 rfl) (Ba hw 90 rfl) (Ba hw 87 rfl) (Ba hw 91 rfl) e00 (g := (mkF m 1 #[vi 3] [(.int 3)])) rfl (by rw [hml]; rfl) (argsL := [(.int 3)]) (rest := []) rfl (lenOf Gza rfl) rfl (W := 0) (by show 2 * 0 + _ ≤ _; exact Nat.le_of_eq rfl) (hb hby Bv) (by decide) (by decide) (by decide) (by decide) (by decide)
 obtain ⟨rfl, N10q, hp10⟩ := hQ10
 have N10 := Fr.app N00 N10q
 obtain ⟨T11, h11, c11, X11, e11, E11, A11, Ex11, st11⟩ := newPE X10 hx hZ (Ba hw 10 rfl) hp10 (g := (mkF m 4 #[vi 3] [(.int 6)])) rfl (hb hby Hv) rfl (by decide) (cap := 6) (by decide) (by decide) (by decide) (by decide) (ad := "[B") (by decide)
 obtain ⟨b11, g11⟩ : ∃ z, z = h0.size := ⟨_, rfl⟩
 rw [← g11] at A11 st11 Ex11
 have O11 := O0.ext E11
 have g_b11 : n0 ≤ b11 := Nat.le_trans (Nat.le_of_eq O0.1.symm) (Nat.le_trans O0.2.1 (Nat.le_of_eq g11.symm))
 have s_b11 : h0.size ≤ b11 := Nat.le_trans K00.1 (Nat.le_of_eq g11.symm)
 have K11 := K00.ext E11
 have V11 : Arv Z h11 b11 c11 .byte (6 : Int32) [(.int 0), (.int 0), (.int 0), (.int 0), (.int 0), (.int 0)] (.int 0) := (Arv.new A11 (by decide)).pad (pad_rep [] (.int 0) 6)
 have lt_b11 := V11.lt
 have k12 : Ab p e below m s₁ #[(.int 3)] 1 T11 6 #[vi 3] [(.ref b11)] := by
  intro t k
  refine k00 t ?_
  refine Pa X00 hx hby Av rfl ?_
  refine st10 _ ?_
  refine st11 _ ?_
  exact k
 exact Zb (.ref b11) hNG hlk hret X11 e11 (by decide) (by decide) (fun fs hr => k12 _ (retOut X11 hx (t := (.array .byte)) hret rfl (Or.inr (Or.inr (Or.inr (Or.inr ⟨rfl, rfl, rfl⟩)))) (hb hby Iv) hr)) ⟨b11, c11, rfl, N10, O11, K11, g_b11, s_b11, V11, Ex11⟩
theorem U1a (l : Launch) (Z : State) (a0 : Array Value) (hw : Pb a0 Z) (ws : List Jvm.Cond) (q0 : Addr) (k0 : ClassId) (cq x0 x1 x2 x3 x4 x5 : Int32) (Ra Ya Ia Ua Ka Ga Ma : Addr) (Da : Int32) (Aa : Value) (h0 : Heap) (n0 : Nat) (O0 : Old Z n0 h0) (hE : EV Z Ra Ya Ia Ua Ka Ga Ma Da Aa) (P0 : Arv Z h0 q0 k0 .byte (6 : Int32) [(.int x0), (.int x1), (.int x2), (.int x3), (.int x4), (.int x5)] (.int 0)) (g_q0 : n0 ≤ q0) :
   Ib l Ut (Jvm.Cond.code Ut jdk_52_method_4_code 3 none :: ws) (Hb 0 0 0 0) #[(.ref q0), (.int 0), (.int cq)] Z h0 (fun v h L => v = none ∧ Fr n0 L ∧ Old Z n0 h ∧ Keep h0 h [q0] ∧ Arv Z h q0 k0 .byte (6 : Int32) [(.int ((cq >>> ((0 : Int32) &&& 31)).toInt8.toInt32)), (.int ((cq >>> ((8 : Int32) &&& 31)).toInt8.toInt32)), (.int x2), (.int x3), (.int x4), (.int x5)] (.int 0)) := by
 refine Db (plainFor_of_name Bb) n0 [q0] fun p e s m below meth c s₁ hx hby hml hown hnm hret hlk X00 e00 hZ N00 K00 hNG => ?_
 have k00 : Ab p e below m s₁ #[(.ref q0), (.int 0), (.int cq)] 3 s₁ 0 #[vr q0, vi 0, vi cq] [] := fun t k => castTop (Kv m q0 (0 : Int32) cq ) k
 obtain ⟨_, _, _, _, _, _, _, _, _, _, _, _, _, _, _, _, _, _, Dc, Id, Kd, _⟩ := id hE
 obtain ⟨T10, X10, e10, st10⟩ := getS2 X00 hx hZ hown (host := "") (Or.inl (Ba hw 117 rfl)) Via.refl e00 (Dc.ext O0.2) (g := (mkF m 0 #[vr q0, vi 0, vi cq] [])) rfl (hb hby Uf)
 obtain ⟨T11, X11, e11, st11⟩ := getS2 X10 hx hZ hown (host := "") (Or.inl (Ba hw 118 rfl)) Via.refl e10 (Id.ext O0.2) (g := (mkF m 38 #[vr q0, vi 1, vi cq] [(.int cq), (.int 0), (.ref q0)])) rfl (hb hby Ye)
 obtain ⟨cl12, Ar12, q12, Sz12, Nn12, Hs12, Gf12⟩ := id P0
 have hin13 := inb_of (j := 0) Sz12 ⟨by decide, by decide⟩
 obtain ⟨T14, h14, X14, e14, W14, st14⟩ := stB X11 hx hZ e11 Ar12 (j := 0) hin13 (g := (mkF m 43 #[vr q0, vi 1, vi cq] [(.int ((cq >>> ((0 : Int32) &&& 31)).toInt8.toInt32)), (.int 0), (.ref q0)])) rfl rfl (hb hby Bf)
 have V14 : Arv Z h14 q0 k0 .byte (6 : Int32) [(.int ((cq >>> ((0 : Int32) &&& 31)).toInt8.toInt32)), (.int x1), (.int x2), (.int x3), (.int x4), (.int x5)] (.int 0) := by
   have q := Arv.set Ar12 q12 Sz12 Nn12 Hs12 Gf12 (fits_nar_byte _) W14 0 rfl (Nat.le_of_ble_eq_true rfl)
   first | exact q | (simp only [Bl, Pd] at q; exact q)
 have N14 := Fr.snoc X14 N00 g_q0
 have O14 := O0.wr W14 g_q0
 have K14 := K00.wr W14 (Or.inl (List.mem_of_getElem? (i := 0) rfl))
 obtain ⟨T15, X15, e15, st15⟩ := getS2 X14 hx hZ hown (host := "") (Or.inl (Ba hw 119 rfl)) Via.refl e14 (Kd.ext O14.2) (g := (mkF m 47 #[vr q0, vi 1, vi cq] [(.int cq), (.int 1), (.ref q0)])) rfl (hb hby Kf)
 obtain ⟨cl16, Ar16, q16, Sz16, Nn16, Hs16, Gf16⟩ := id V14
 have hin17 := inb_of (j := 1) Sz16 ⟨by decide, by decide⟩
 obtain ⟨T18, h18, X18, e18, W18, st18⟩ := stB X15 hx hZ e15 Ar16 (j := 1) hin17 (g := (mkF m 52 #[vr q0, vi 1, vi cq] [(.int ((cq >>> ((8 : Int32) &&& 31)).toInt8.toInt32)), (.int 1), (.ref q0)])) rfl rfl (hb hby Pf)
 have V18 : Arv Z h18 q0 k0 .byte (6 : Int32) [(.int ((cq >>> ((0 : Int32) &&& 31)).toInt8.toInt32)), (.int ((cq >>> ((8 : Int32) &&& 31)).toInt8.toInt32)), (.int x2), (.int x3), (.int x4), (.int x5)] (.int 0) := by
   have q := Arv.set Ar16 q16 Sz16 Nn16 Hs16 Gf16 (fits_nar_byte _) W18 1 rfl (Nat.le_of_ble_eq_true rfl)
   first | exact q | (simp only [Bl, Pd] at q; exact q)
 have N18 := Fr.snoc X18 N14 g_q0
 have O18 := O14.wr W18 g_q0
 have K18 := K14.wr W18 (Or.inl (List.mem_of_getElem? (i := 0) rfl))
 have k19 : Ab p e below m s₁ #[(.ref q0), (.int 0), (.int cq)] 3 T18 53 #[vr q0, vi 1, vi cq] [] := by
  intro t k
  refine k00 t ?_
  refine st10 _ ?_
  refine XS.ifYes X10.here hx rfl (pc0 := 3) (pc' := 28) rfl (hb hby Vf) rfl ((if0 _ _).trans (feq (by decide : ¬ ((1 : Int32) = (0 : Int32)))).2) (by decide) (by decide) ?_
  refine Pa X10 hx hby Ke rfl ?_
  refine XS.iconst X10.here hx rfl (hb hby Le) ?_
  refine XS.ishl X10.here hx rfl (hb hby Me) rfl ?_
  show Za p e below m T10 31 #[vr q0, vi 0, vi cq] [(.int ((0 : Int32) <<< ((1 : Int32) &&& 31)))] t
  rw [R0a]
  refine XS.istoreN X10.here hx rfl (hb hby Pe) rfl (l' := #[vr q0, vi 0, vi cq]) rfl ?_
  refine Va X10 hx hby Re rfl rfl ?_
  refine Pa X10 hx hby Ue rfl ?_
  refine XS.iinc X10.here hx rfl (hb hby Ve) rfl (l' := #[vr q0, vi ((0 : Int32) + (1 : Int32)), vi cq]) rfl ?_
  rw [Mh]
  refine Pa X10 hx hby We rfl ?_
  refine st11 _ ?_
  refine XS.ishr X11.here hx rfl (hb hby Ze) rfl ?_
  refine XS.i2b X11.here hx rfl (hb hby Af) rfl ?_
  refine st14 _ ?_
  refine Va X14 hx hby Df rfl rfl ?_
  refine Pa X14 hx hby Gf rfl ?_
  show Za p e below m T14 46 #[vr q0, vi 1, vi cq] [(.int 1), (.ref q0)] t
  refine Pa X14 hx hby Hf rfl ?_
  refine st15 _ ?_
  refine XS.ishr X15.here hx rfl (hb hby Lf) rfl ?_
  refine XS.i2b X15.here hx rfl (hb hby Mf) rfl ?_
  refine st18 _ ?_
  exact k
 exact Yg hNG hlk X18 e18 (by decide) (by decide) (fun fs hr => k19 _ (X18.returnOut hx hret (hb hby Rf) hr)) ⟨rfl, N18, O18, K18, V18⟩
theorem B0a (l : Launch) (Z : State) (a0 : Array Value) (hw : Pb a0 Z) (ws : List Jvm.Cond) (q0 : Addr) (k0 : ClassId) (cq x0 x1 x2 x3 x4 x5 : Int32) (Ra Ya Ia Ua Ka Ga Ma : Addr) (Da : Int32) (Aa : Value) (h0 : Heap) (n0 : Nat) (O0 : Old Z n0 h0) (hE : EV Z Ra Ya Ia Ua Ka Ga Ma Da Aa) (P0 : Arv Z h0 q0 k0 .byte (6 : Int32) [(.int x0), (.int x1), (.int x2), (.int x3), (.int x4), (.int x5)] (.int 0)) (g_q0 : n0 ≤ q0) :
   Ib l Ut (Jvm.Cond.code Ut jdk_52_method_4_code 3 none :: ws) (Hb 0 0 0 0) #[(.ref q0), (.int 1), (.int cq)] Z h0 (fun v h L => v = none ∧ Fr n0 L ∧ Old Z n0 h ∧ Keep h0 h [q0] ∧ Arv Z h q0 k0 .byte (6 : Int32) [(.int x0), (.int x1), (.int ((cq >>> ((0 : Int32) &&& 31)).toInt8.toInt32)), (.int ((cq >>> ((8 : Int32) &&& 31)).toInt8.toInt32)), (.int x4), (.int x5)] (.int 0)) := by
 refine Db (plainFor_of_name Bb) n0 [q0] fun p e s m below meth c s₁ hx hby hml hown hnm hret hlk X00 e00 hZ N00 K00 hNG => ?_
 have k00 : Ab p e below m s₁ #[(.ref q0), (.int 1), (.int cq)] 3 s₁ 0 #[vr q0, vi 1, vi cq] [] := fun t k => castTop (Kv m q0 (1 : Int32) cq ) k
 obtain ⟨_, _, _, _, _, _, _, _, _, _, _, _, _, _, _, _, _, _, Dc, Id, Kd, _⟩ := id hE
 obtain ⟨T10, X10, e10, st10⟩ := getS2 X00 hx hZ hown (host := "") (Or.inl (Ba hw 117 rfl)) Via.refl e00 (Dc.ext O0.2) (g := (mkF m 0 #[vr q0, vi 1, vi cq] [])) rfl (hb hby Uf)
 obtain ⟨T11, X11, e11, st11⟩ := getS2 X10 hx hZ hown (host := "") (Or.inl (Ba hw 118 rfl)) Via.refl e10 (Id.ext O0.2) (g := (mkF m 38 #[vr q0, vi 3, vi cq] [(.int cq), (.int 2), (.ref q0)])) rfl (hb hby Ye)
 obtain ⟨cl12, Ar12, q12, Sz12, Nn12, Hs12, Gf12⟩ := id P0
 have hin13 := inb_of (j := 2) Sz12 ⟨by decide, by decide⟩
 obtain ⟨T14, h14, X14, e14, W14, st14⟩ := stB X11 hx hZ e11 Ar12 (j := 2) hin13 (g := (mkF m 43 #[vr q0, vi 3, vi cq] [(.int ((cq >>> ((0 : Int32) &&& 31)).toInt8.toInt32)), (.int 2), (.ref q0)])) rfl rfl (hb hby Bf)
 have V14 : Arv Z h14 q0 k0 .byte (6 : Int32) [(.int x0), (.int x1), (.int ((cq >>> ((0 : Int32) &&& 31)).toInt8.toInt32)), (.int x3), (.int x4), (.int x5)] (.int 0) := by
   have q := Arv.set Ar12 q12 Sz12 Nn12 Hs12 Gf12 (fits_nar_byte _) W14 2 rfl (Nat.le_of_ble_eq_true rfl)
   first | exact q | (simp only [Bl, Pd] at q; exact q)
 have N14 := Fr.snoc X14 N00 g_q0
 have O14 := O0.wr W14 g_q0
 have K14 := K00.wr W14 (Or.inl (List.mem_of_getElem? (i := 0) rfl))
 obtain ⟨T15, X15, e15, st15⟩ := getS2 X14 hx hZ hown (host := "") (Or.inl (Ba hw 119 rfl)) Via.refl e14 (Kd.ext O14.2) (g := (mkF m 47 #[vr q0, vi 3, vi cq] [(.int cq), (.int 3), (.ref q0)])) rfl (hb hby Kf)
 obtain ⟨cl16, Ar16, q16, Sz16, Nn16, Hs16, Gf16⟩ := id V14
 have hin17 := inb_of (j := 3) Sz16 ⟨by decide, by decide⟩
 obtain ⟨T18, h18, X18, e18, W18, st18⟩ := stB X15 hx hZ e15 Ar16 (j := 3) hin17 (g := (mkF m 52 #[vr q0, vi 3, vi cq] [(.int ((cq >>> ((8 : Int32) &&& 31)).toInt8.toInt32)), (.int 3), (.ref q0)])) rfl rfl (hb hby Pf)
 have V18 : Arv Z h18 q0 k0 .byte (6 : Int32) [(.int x0), (.int x1), (.int ((cq >>> ((0 : Int32) &&& 31)).toInt8.toInt32)), (.int ((cq >>> ((8 : Int32) &&& 31)).toInt8.toInt32)), (.int x4), (.int x5)] (.int 0) := by
   have q := Arv.set Ar16 q16 Sz16 Nn16 Hs16 Gf16 (fits_nar_byte _) W18 3 rfl (Nat.le_of_ble_eq_true rfl)
   first | exact q | (simp only [Bl, Pd] at q; exact q)
 have N18 := Fr.snoc X18 N14 g_q0
 have O18 := O14.wr W18 g_q0
 have K18 := K14.wr W18 (Or.inl (List.mem_of_getElem? (i := 0) rfl))
 have k19 : Ab p e below m s₁ #[(.ref q0), (.int 1), (.int cq)] 3 T18 53 #[vr q0, vi 3, vi cq] [] := by
  intro t k
  refine k00 t ?_
  refine st10 _ ?_
  refine XS.ifYes X10.here hx rfl (pc0 := 3) (pc' := 28) rfl (hb hby Vf) rfl ((if0 _ _).trans (feq (by decide : ¬ ((1 : Int32) = (0 : Int32)))).2) (by decide) (by decide) ?_
  refine Pa X10 hx hby Ke rfl ?_
  refine XS.iconst X10.here hx rfl (hb hby Le) ?_
  refine XS.ishl X10.here hx rfl (hb hby Me) rfl ?_
  show Za p e below m T10 31 #[vr q0, vi 1, vi cq] [(.int ((1 : Int32) <<< ((1 : Int32) &&& 31)))] t
  rw [Kwa]
  refine XS.istoreN X10.here hx rfl (hb hby Pe) rfl (l' := #[vr q0, vi 2, vi cq]) rfl ?_
  refine Va X10 hx hby Re rfl rfl ?_
  refine Pa X10 hx hby Ue rfl ?_
  refine XS.iinc X10.here hx rfl (hb hby Ve) rfl (l' := #[vr q0, vi ((2 : Int32) + (1 : Int32)), vi cq]) rfl ?_
  rw [Lv]
  refine Pa X10 hx hby We rfl ?_
  refine st11 _ ?_
  refine XS.ishr X11.here hx rfl (hb hby Ze) rfl ?_
  refine XS.i2b X11.here hx rfl (hb hby Af) rfl ?_
  refine st14 _ ?_
  refine Va X14 hx hby Df rfl rfl ?_
  refine Pa X14 hx hby Gf rfl ?_
  show Za p e below m T14 46 #[vr q0, vi 3, vi cq] [(.int 3), (.ref q0)] t
  refine Pa X14 hx hby Hf rfl ?_
  refine st15 _ ?_
  refine XS.ishr X15.here hx rfl (hb hby Lf) rfl ?_
  refine XS.i2b X15.here hx rfl (hb hby Mf) rfl ?_
  refine st18 _ ?_
  exact k
 exact Yg hNG hlk X18 e18 (by decide) (by decide) (fun fs hr => k19 _ (X18.returnOut hx hret (hb hby Rf) hr)) ⟨rfl, N18, O18, K18, V18⟩
theorem U0a : ((4 : Int32) + (1 : Int32)) = (5 : Int32) := by decide
theorem V1a (l : Launch) (Z : State) (a0 : Array Value) (hw : Pb a0 Z) (ws : List Jvm.Cond) (q0 : Addr) (k0 : ClassId) (cq x0 x1 x2 x3 x4 x5 : Int32) (Ra Ya Ia Ua Ka Ga Ma : Addr) (Da : Int32) (Aa : Value) (h0 : Heap) (n0 : Nat) (O0 : Old Z n0 h0) (hE : EV Z Ra Ya Ia Ua Ka Ga Ma Da Aa) (P0 : Arv Z h0 q0 k0 .byte (6 : Int32) [(.int x0), (.int x1), (.int x2), (.int x3), (.int x4), (.int x5)] (.int 0)) (g_q0 : n0 ≤ q0) :
   Ib l Ut (Jvm.Cond.code Ut jdk_52_method_4_code 3 none :: ws) (Hb 0 0 0 0) #[(.ref q0), (.int 2), (.int cq)] Z h0 (fun v h L => v = none ∧ Fr n0 L ∧ Old Z n0 h ∧ Keep h0 h [q0] ∧ Arv Z h q0 k0 .byte (6 : Int32) [(.int x0), (.int x1), (.int x2), (.int x3), (.int ((cq >>> ((0 : Int32) &&& 31)).toInt8.toInt32)), (.int ((cq >>> ((8 : Int32) &&& 31)).toInt8.toInt32))] (.int 0)) := by
 refine Db (plainFor_of_name Bb) n0 [q0] fun p e s m below meth c s₁ hx hby hml hown hnm hret hlk X00 e00 hZ N00 K00 hNG => ?_
 have k00 : Ab p e below m s₁ #[(.ref q0), (.int 2), (.int cq)] 3 s₁ 0 #[vr q0, vi 2, vi cq] [] := fun t k => castTop (Kv m q0 (2 : Int32) cq ) k
 obtain ⟨_, _, _, _, _, _, _, _, _, _, _, _, _, _, _, _, _, _, Dc, Id, Kd, _⟩ := id hE
 obtain ⟨T10, X10, e10, st10⟩ := getS2 X00 hx hZ hown (host := "") (Or.inl (Ba hw 117 rfl)) Via.refl e00 (Dc.ext O0.2) (g := (mkF m 0 #[vr q0, vi 2, vi cq] [])) rfl (hb hby Uf)
 obtain ⟨T11, X11, e11, st11⟩ := getS2 X10 hx hZ hown (host := "") (Or.inl (Ba hw 118 rfl)) Via.refl e10 (Id.ext O0.2) (g := (mkF m 38 #[vr q0, vi 5, vi cq] [(.int cq), (.int 4), (.ref q0)])) rfl (hb hby Ye)
 obtain ⟨cl12, Ar12, q12, Sz12, Nn12, Hs12, Gf12⟩ := id P0
 have hin13 := inb_of (j := 4) Sz12 ⟨by decide, by decide⟩
 obtain ⟨T14, h14, X14, e14, W14, st14⟩ := stB X11 hx hZ e11 Ar12 (j := 4) hin13 (g := (mkF m 43 #[vr q0, vi 5, vi cq] [(.int ((cq >>> ((0 : Int32) &&& 31)).toInt8.toInt32)), (.int 4), (.ref q0)])) rfl rfl (hb hby Bf)
 have V14 : Arv Z h14 q0 k0 .byte (6 : Int32) [(.int x0), (.int x1), (.int x2), (.int x3), (.int ((cq >>> ((0 : Int32) &&& 31)).toInt8.toInt32)), (.int x5)] (.int 0) := by
   have q := Arv.set Ar12 q12 Sz12 Nn12 Hs12 Gf12 (fits_nar_byte _) W14 4 rfl (Nat.le_of_ble_eq_true rfl)
   first | exact q | (simp only [Bl, Pd] at q; exact q)
 have N14 := Fr.snoc X14 N00 g_q0
 have O14 := O0.wr W14 g_q0
 have K14 := K00.wr W14 (Or.inl (List.mem_of_getElem? (i := 0) rfl))
 obtain ⟨T15, X15, e15, st15⟩ := getS2 X14 hx hZ hown (host := "") (Or.inl (Ba hw 119 rfl)) Via.refl e14 (Kd.ext O14.2) (g := (mkF m 47 #[vr q0, vi 5, vi cq] [(.int cq), (.int 5), (.ref q0)])) rfl (hb hby Kf)
 obtain ⟨cl16, Ar16, q16, Sz16, Nn16, Hs16, Gf16⟩ := id V14
 have hin17 := inb_of (j := 5) Sz16 ⟨by decide, by decide⟩
 obtain ⟨T18, h18, X18, e18, W18, st18⟩ := stB X15 hx hZ e15 Ar16 (j := 5) hin17 (g := (mkF m 52 #[vr q0, vi 5, vi cq] [(.int ((cq >>> ((8 : Int32) &&& 31)).toInt8.toInt32)), (.int 5), (.ref q0)])) rfl rfl (hb hby Pf)
 have V18 : Arv Z h18 q0 k0 .byte (6 : Int32) [(.int x0), (.int x1), (.int x2), (.int x3), (.int ((cq >>> ((0 : Int32) &&& 31)).toInt8.toInt32)), (.int ((cq >>> ((8 : Int32) &&& 31)).toInt8.toInt32))] (.int 0) := by
   have q := Arv.set Ar16 q16 Sz16 Nn16 Hs16 Gf16 (fits_nar_byte _) W18 5 rfl (Nat.le_of_ble_eq_true rfl)
   first | exact q | (simp only [Bl, Pd] at q; exact q)
 have N18 := Fr.snoc X18 N14 g_q0
 have O18 := O14.wr W18 g_q0
 have K18 := K14.wr W18 (Or.inl (List.mem_of_getElem? (i := 0) rfl))
 have k19 : Ab p e below m s₁ #[(.ref q0), (.int 2), (.int cq)] 3 T18 53 #[vr q0, vi 5, vi cq] [] := by
  intro t k
  refine k00 t ?_
  refine st10 _ ?_
  refine XS.ifYes X10.here hx rfl (pc0 := 3) (pc' := 28) rfl (hb hby Vf) rfl ((if0 _ _).trans (feq (by decide : ¬ ((1 : Int32) = (0 : Int32)))).2) (by decide) (by decide) ?_
  refine Pa X10 hx hby Ke rfl ?_
  refine XS.iconst X10.here hx rfl (hb hby Le) ?_
  refine XS.ishl X10.here hx rfl (hb hby Me) rfl ?_
  show Za p e below m T10 31 #[vr q0, vi 2, vi cq] [(.int ((2 : Int32) <<< ((1 : Int32) &&& 31)))] t
  rw [Uxa]
  refine XS.istoreN X10.here hx rfl (hb hby Pe) rfl (l' := #[vr q0, vi 4, vi cq]) rfl ?_
  refine Va X10 hx hby Re rfl rfl ?_
  refine Pa X10 hx hby Ue rfl ?_
  refine XS.iinc X10.here hx rfl (hb hby Ve) rfl (l' := #[vr q0, vi ((4 : Int32) + (1 : Int32)), vi cq]) rfl ?_
  rw [U0a]
  refine Pa X10 hx hby We rfl ?_
  refine st11 _ ?_
  refine XS.ishr X11.here hx rfl (hb hby Ze) rfl ?_
  refine XS.i2b X11.here hx rfl (hb hby Af) rfl ?_
  refine st14 _ ?_
  refine Va X14 hx hby Df rfl rfl ?_
  refine Pa X14 hx hby Gf rfl ?_
  show Za p e below m T14 46 #[vr q0, vi 5, vi cq] [(.int 5), (.ref q0)] t
  refine Pa X14 hx hby Hf rfl ?_
  refine st15 _ ?_
  refine XS.ishr X15.here hx rfl (hb hby Lf) rfl ?_
  refine XS.i2b X15.here hx rfl (hb hby Mf) rfl ?_
  refine st18 _ ?_
  exact k
 exact Yg hNG hlk X18 e18 (by decide) (by decide) (fun fs hr => k19 _ (X18.returnOut hx hret (hb hby Rf) hr)) ⟨rfl, N18, O18, K18, V18⟩
theorem own_z7 : ((4 : Int32) <<< ((1 : Int32) &&& 31)) = (8 : Int32) := by decide
theorem rm_f3 (l : Launch) (Z : State) (a0 : Array Value) (hw : Pb a0 Z) (ws : List Jvm.Cond) (Ra Ya Ia Ua Ka Ga Ma : Addr) (Da : Int32) (Aa : Value) (h0 : Heap) (n0 : Nat) (O0 : Old Z n0 h0) (hE : EV Z Ra Ya Ia Ua Ka Ga Ma Da Aa) :
   Ib l Hca (Jvm.Cond.code Hca jdk_52_method_3_code 1 (some .int) :: ws) (Hb 0 0 0 0) #[(.int 4)] Z h0 (fun v h L => v = some (.int 8) ∧ Fr n0 L ∧ h = h0) := by
 refine Db (plainFor_of_name Bb) n0 [] fun p e s m below meth c s₁ hx hby hml hown hnm hret hlk X00 e00 hZ N00 K00 hNG => ?_
 have k00 : Ab p e below m s₁ #[(.int 4)] 1 s₁ 0 #[vi 4] [] := fun t k => castTop (K6 m (4 : Int32) ) k
 have k10 : Ab p e below m s₁ #[(.int 4)] 1 s₁ 58 #[vi 4] [(.int 8)] := by
  intro t k
  refine k00 t ?_
  refine Pa X00 hx hby Dv rfl ?_
  refine XS.ifYes X00.here hx rfl (pc0 := 1) (pc' := 12) rfl (hb hby Gv) rfl ((if0 _ _).trans (flt (by decide : ¬ ((4 : Int32) < (0 : Int32)))).2.1) (by decide) (by decide) ?_
  refine Pa X00 hx hby Yt rfl ?_
  refine X00.ldcI hx hown (mvT hZ (Ba hw 92 rfl)) rfl (hb hby Zt) ?_
  refine XS.icmpYes X00.here hx rfl (pc0 := 15) (pc' := 55) rfl (hb hby Au) rfl (tlt (by decide : (4 : Int32) < (1073741823 : Int32))).1 (by decide) (by decide) ?_
  refine Pa X00 hx hby Bu rfl ?_
  refine XS.iconst X00.here hx rfl (hb hby Du) ?_
  refine XS.ishl X00.here hx rfl (hb hby Gu) rfl ?_
  show Za p e below m s₁ 58 #[vi 4] [(.int ((4 : Int32) <<< ((1 : Int32) &&& 31)))] t
  rw [own_z7]
  exact k
 exact Zb (.int 8) hNG hlk hret X00 e00 (by decide) (by decide) (fun fs hr => k10 _ (retOut X00 hx (t := .int) hret rfl (Or.inl ⟨rfl, Or.inl rfl, _, rfl⟩) (hb hby Hu) hr)) ⟨rfl, N00, rfl⟩
theorem rm_nb4 (l : Launch) (Z : State) (a0 : Array Value) (hw : Pb a0 Z) (ws : List Jvm.Cond) (Ra Ya Ia Ua Ka Ga Ma : Addr) (Da : Int32) (Aa : Value) (h0 : Heap) (n0 : Nat) (O0 : Old Z n0 h0) (hE : EV Z Ra Ya Ia Ua Ka Ga Ma Da Aa) :
   Ib l Ica (Jvm.Cond.code Ica jdk_52_method_2_code 1 (some (.array .byte)) :: ws) (Hb 1 1 8 12) #[(.int 4)] Z h0 (fun v h L => ∃ (b : Addr) (k : ClassId), v = some (.ref b) ∧ Fr n0 L ∧ Old Z n0 h ∧ Keep h0 h [] ∧ n0 ≤ b ∧ h0.size ≤ b ∧ Arv Z h b k .byte (8 : Int32) [(.int 0), (.int 0), (.int 0), (.int 0), (.int 0), (.int 0), (.int 0), (.int 0)] (.int 0) ∧ Exa Z h b "[B") := by
 refine Db (plainFor_of_name Bb) n0 [] fun p e s m below meth c s₁ hx hby hml hown hnm hret hlk X00 e00 hZ N00 K00 hNG => ?_
 have k00 : Ab p e below m s₁ #[(.int 4)] 1 s₁ 0 #[vi 4] [] := fun t k => castTop (K6 m (4 : Int32) ) k
 obtain ⟨v10, T10, Lc10, X10, hQ10, st10⟩ := Ub X00 hx hZ hown (rm_f3 l Z a0 hw []  _ _ _ _ _ _ _ _ _ h0 n0 O0 hE ) (Ba hw 89 rfl) (Ba hw 90 rfl) (Ba hw 87 rfl) (Ba hw 91 rfl) e00 (g := (mkF m 1 #[vi 4] [(.int 4)])) rfl (by rw [hml]; rfl) (argsL := [(.int 4)]) (rest := []) rfl (lenOf Gza rfl) rfl (W := 0) (by show 2 * 0 + _ ≤ _; exact Nat.le_of_eq rfl) (hb hby Bv) (by decide) (by decide) (by decide) (by decide) (by decide)
 obtain ⟨rfl, N10q, hp10⟩ := hQ10
 have N10 := Fr.app N00 N10q
 obtain ⟨T11, h11, c11, X11, e11, E11, A11, Ex11, st11⟩ := newPE X10 hx hZ (Ba hw 10 rfl) hp10 (g := (mkF m 4 #[vi 4] [(.int 8)])) rfl (hb hby Hv) rfl (by decide) (cap := 8) (by decide) (by decide) (by decide) (by decide) (ad := "[B") (by decide)
 obtain ⟨b11, g11⟩ : ∃ z, z = h0.size := ⟨_, rfl⟩
 rw [← g11] at A11 st11 Ex11
 have O11 := O0.ext E11
 have g_b11 : n0 ≤ b11 := Nat.le_trans (Nat.le_of_eq O0.1.symm) (Nat.le_trans O0.2.1 (Nat.le_of_eq g11.symm))
 have s_b11 : h0.size ≤ b11 := Nat.le_trans K00.1 (Nat.le_of_eq g11.symm)
 have K11 := K00.ext E11
 have V11 : Arv Z h11 b11 c11 .byte (8 : Int32) [(.int 0), (.int 0), (.int 0), (.int 0), (.int 0), (.int 0), (.int 0), (.int 0)] (.int 0) := (Arv.new A11 (by decide)).pad (pad_rep [] (.int 0) 8)
 have lt_b11 := V11.lt
 have k12 : Ab p e below m s₁ #[(.int 4)] 1 T11 6 #[vi 4] [(.ref b11)] := by
  intro t k
  refine k00 t ?_
  refine Pa X00 hx hby Av rfl ?_
  refine st10 _ ?_
  refine st11 _ ?_
  exact k
 exact Zb (.ref b11) hNG hlk hret X11 e11 (by decide) (by decide) (fun fs hr => k12 _ (retOut X11 hx (t := (.array .byte)) hret rfl (Or.inr (Or.inr (Or.inr (Or.inr ⟨rfl, rfl, rfl⟩)))) (hb hby Iv) hr)) ⟨b11, c11, rfl, N10, O11, K11, g_b11, s_b11, V11, Ex11⟩
theorem R5a (l : Launch) (Z : State) (a0 : Array Value) (hw : Pb a0 Z) (ws : List Jvm.Cond) (q0 : Addr) (k0 : ClassId) (cq x0 x1 x2 x3 x4 x5 x6 x7 : Int32) (Ra Ya Ia Ua Ka Ga Ma : Addr) (Da : Int32) (Aa : Value) (h0 : Heap) (n0 : Nat) (O0 : Old Z n0 h0) (hE : EV Z Ra Ya Ia Ua Ka Ga Ma Da Aa) (P0 : Arv Z h0 q0 k0 .byte (8 : Int32) [(.int x0), (.int x1), (.int x2), (.int x3), (.int x4), (.int x5), (.int x6), (.int x7)] (.int 0)) (g_q0 : n0 ≤ q0) :
   Ib l Ut (Jvm.Cond.code Ut jdk_52_method_4_code 3 none :: ws) (Hb 0 0 0 0) #[(.ref q0), (.int 0), (.int cq)] Z h0 (fun v h L => v = none ∧ Fr n0 L ∧ Old Z n0 h ∧ Keep h0 h [q0] ∧ Arv Z h q0 k0 .byte (8 : Int32) [(.int ((cq >>> ((0 : Int32) &&& 31)).toInt8.toInt32)), (.int ((cq >>> ((8 : Int32) &&& 31)).toInt8.toInt32)), (.int x2), (.int x3), (.int x4), (.int x5), (.int x6), (.int x7)] (.int 0)) := by
 refine Db (plainFor_of_name Bb) n0 [q0] fun p e s m below meth c s₁ hx hby hml hown hnm hret hlk X00 e00 hZ N00 K00 hNG => ?_
 have k00 : Ab p e below m s₁ #[(.ref q0), (.int 0), (.int cq)] 3 s₁ 0 #[vr q0, vi 0, vi cq] [] := fun t k => castTop (Kv m q0 (0 : Int32) cq ) k
 obtain ⟨_, _, _, _, _, _, _, _, _, _, _, _, _, _, _, _, _, _, Dc, Id, Kd, _⟩ := id hE
 obtain ⟨T10, X10, e10, st10⟩ := getS2 X00 hx hZ hown (host := "") (Or.inl (Ba hw 117 rfl)) Via.refl e00 (Dc.ext O0.2) (g := (mkF m 0 #[vr q0, vi 0, vi cq] [])) rfl (hb hby Uf)
 obtain ⟨T11, X11, e11, st11⟩ := getS2 X10 hx hZ hown (host := "") (Or.inl (Ba hw 118 rfl)) Via.refl e10 (Id.ext O0.2) (g := (mkF m 38 #[vr q0, vi 1, vi cq] [(.int cq), (.int 0), (.ref q0)])) rfl (hb hby Ye)
 obtain ⟨cl12, Ar12, q12, Sz12, Nn12, Hs12, Gf12⟩ := id P0
 have hin13 := inb_of (j := 0) Sz12 ⟨by decide, by decide⟩
 obtain ⟨T14, h14, X14, e14, W14, st14⟩ := stB X11 hx hZ e11 Ar12 (j := 0) hin13 (g := (mkF m 43 #[vr q0, vi 1, vi cq] [(.int ((cq >>> ((0 : Int32) &&& 31)).toInt8.toInt32)), (.int 0), (.ref q0)])) rfl rfl (hb hby Bf)
 have V14 : Arv Z h14 q0 k0 .byte (8 : Int32) [(.int ((cq >>> ((0 : Int32) &&& 31)).toInt8.toInt32)), (.int x1), (.int x2), (.int x3), (.int x4), (.int x5), (.int x6), (.int x7)] (.int 0) := by
   have q := Arv.set Ar12 q12 Sz12 Nn12 Hs12 Gf12 (fits_nar_byte _) W14 0 rfl (Nat.le_of_ble_eq_true rfl)
   first | exact q | (simp only [Bl, Pd] at q; exact q)
 have N14 := Fr.snoc X14 N00 g_q0
 have O14 := O0.wr W14 g_q0
 have K14 := K00.wr W14 (Or.inl (List.mem_of_getElem? (i := 0) rfl))
 obtain ⟨T15, X15, e15, st15⟩ := getS2 X14 hx hZ hown (host := "") (Or.inl (Ba hw 119 rfl)) Via.refl e14 (Kd.ext O14.2) (g := (mkF m 47 #[vr q0, vi 1, vi cq] [(.int cq), (.int 1), (.ref q0)])) rfl (hb hby Kf)
 obtain ⟨cl16, Ar16, q16, Sz16, Nn16, Hs16, Gf16⟩ := id V14
 have hin17 := inb_of (j := 1) Sz16 ⟨by decide, by decide⟩
 obtain ⟨T18, h18, X18, e18, W18, st18⟩ := stB X15 hx hZ e15 Ar16 (j := 1) hin17 (g := (mkF m 52 #[vr q0, vi 1, vi cq] [(.int ((cq >>> ((8 : Int32) &&& 31)).toInt8.toInt32)), (.int 1), (.ref q0)])) rfl rfl (hb hby Pf)
 have V18 : Arv Z h18 q0 k0 .byte (8 : Int32) [(.int ((cq >>> ((0 : Int32) &&& 31)).toInt8.toInt32)), (.int ((cq >>> ((8 : Int32) &&& 31)).toInt8.toInt32)), (.int x2), (.int x3), (.int x4), (.int x5), (.int x6), (.int x7)] (.int 0) := by
   have q := Arv.set Ar16 q16 Sz16 Nn16 Hs16 Gf16 (fits_nar_byte _) W18 1 rfl (Nat.le_of_ble_eq_true rfl)
   first | exact q | (simp only [Bl, Pd] at q; exact q)
 have N18 := Fr.snoc X18 N14 g_q0
 have O18 := O14.wr W18 g_q0
 have K18 := K14.wr W18 (Or.inl (List.mem_of_getElem? (i := 0) rfl))
 have k19 : Ab p e below m s₁ #[(.ref q0), (.int 0), (.int cq)] 3 T18 53 #[vr q0, vi 1, vi cq] [] := by
  intro t k
  refine k00 t ?_
  refine st10 _ ?_
  refine XS.ifYes X10.here hx rfl (pc0 := 3) (pc' := 28) rfl (hb hby Vf) rfl ((if0 _ _).trans (feq (by decide : ¬ ((1 : Int32) = (0 : Int32)))).2) (by decide) (by decide) ?_
  refine Pa X10 hx hby Ke rfl ?_
  refine XS.iconst X10.here hx rfl (hb hby Le) ?_
  refine XS.ishl X10.here hx rfl (hb hby Me) rfl ?_
  show Za p e below m T10 31 #[vr q0, vi 0, vi cq] [(.int ((0 : Int32) <<< ((1 : Int32) &&& 31)))] t
  rw [R0a]
  refine XS.istoreN X10.here hx rfl (hb hby Pe) rfl (l' := #[vr q0, vi 0, vi cq]) rfl ?_
  refine Va X10 hx hby Re rfl rfl ?_
  refine Pa X10 hx hby Ue rfl ?_
  refine XS.iinc X10.here hx rfl (hb hby Ve) rfl (l' := #[vr q0, vi ((0 : Int32) + (1 : Int32)), vi cq]) rfl ?_
  rw [Mh]
  refine Pa X10 hx hby We rfl ?_
  refine st11 _ ?_
  refine XS.ishr X11.here hx rfl (hb hby Ze) rfl ?_
  refine XS.i2b X11.here hx rfl (hb hby Af) rfl ?_
  refine st14 _ ?_
  refine Va X14 hx hby Df rfl rfl ?_
  refine Pa X14 hx hby Gf rfl ?_
  show Za p e below m T14 46 #[vr q0, vi 1, vi cq] [(.int 1), (.ref q0)] t
  refine Pa X14 hx hby Hf rfl ?_
  refine st15 _ ?_
  refine XS.ishr X15.here hx rfl (hb hby Lf) rfl ?_
  refine XS.i2b X15.here hx rfl (hb hby Mf) rfl ?_
  refine st18 _ ?_
  exact k
 exact Yg hNG hlk X18 e18 (by decide) (by decide) (fun fs hr => k19 _ (X18.returnOut hx hret (hb hby Rf) hr)) ⟨rfl, N18, O18, K18, V18⟩
theorem U5a (l : Launch) (Z : State) (a0 : Array Value) (hw : Pb a0 Z) (ws : List Jvm.Cond) (q0 : Addr) (k0 : ClassId) (cq x0 x1 x2 x3 x4 x5 x6 x7 : Int32) (Ra Ya Ia Ua Ka Ga Ma : Addr) (Da : Int32) (Aa : Value) (h0 : Heap) (n0 : Nat) (O0 : Old Z n0 h0) (hE : EV Z Ra Ya Ia Ua Ka Ga Ma Da Aa) (P0 : Arv Z h0 q0 k0 .byte (8 : Int32) [(.int x0), (.int x1), (.int x2), (.int x3), (.int x4), (.int x5), (.int x6), (.int x7)] (.int 0)) (g_q0 : n0 ≤ q0) :
   Ib l Ut (Jvm.Cond.code Ut jdk_52_method_4_code 3 none :: ws) (Hb 0 0 0 0) #[(.ref q0), (.int 1), (.int cq)] Z h0 (fun v h L => v = none ∧ Fr n0 L ∧ Old Z n0 h ∧ Keep h0 h [q0] ∧ Arv Z h q0 k0 .byte (8 : Int32) [(.int x0), (.int x1), (.int ((cq >>> ((0 : Int32) &&& 31)).toInt8.toInt32)), (.int ((cq >>> ((8 : Int32) &&& 31)).toInt8.toInt32)), (.int x4), (.int x5), (.int x6), (.int x7)] (.int 0)) := by
 refine Db (plainFor_of_name Bb) n0 [q0] fun p e s m below meth c s₁ hx hby hml hown hnm hret hlk X00 e00 hZ N00 K00 hNG => ?_
 have k00 : Ab p e below m s₁ #[(.ref q0), (.int 1), (.int cq)] 3 s₁ 0 #[vr q0, vi 1, vi cq] [] := fun t k => castTop (Kv m q0 (1 : Int32) cq ) k
 obtain ⟨_, _, _, _, _, _, _, _, _, _, _, _, _, _, _, _, _, _, Dc, Id, Kd, _⟩ := id hE
 obtain ⟨T10, X10, e10, st10⟩ := getS2 X00 hx hZ hown (host := "") (Or.inl (Ba hw 117 rfl)) Via.refl e00 (Dc.ext O0.2) (g := (mkF m 0 #[vr q0, vi 1, vi cq] [])) rfl (hb hby Uf)
 obtain ⟨T11, X11, e11, st11⟩ := getS2 X10 hx hZ hown (host := "") (Or.inl (Ba hw 118 rfl)) Via.refl e10 (Id.ext O0.2) (g := (mkF m 38 #[vr q0, vi 3, vi cq] [(.int cq), (.int 2), (.ref q0)])) rfl (hb hby Ye)
 obtain ⟨cl12, Ar12, q12, Sz12, Nn12, Hs12, Gf12⟩ := id P0
 have hin13 := inb_of (j := 2) Sz12 ⟨by decide, by decide⟩
 obtain ⟨T14, h14, X14, e14, W14, st14⟩ := stB X11 hx hZ e11 Ar12 (j := 2) hin13 (g := (mkF m 43 #[vr q0, vi 3, vi cq] [(.int ((cq >>> ((0 : Int32) &&& 31)).toInt8.toInt32)), (.int 2), (.ref q0)])) rfl rfl (hb hby Bf)
 have V14 : Arv Z h14 q0 k0 .byte (8 : Int32) [(.int x0), (.int x1), (.int ((cq >>> ((0 : Int32) &&& 31)).toInt8.toInt32)), (.int x3), (.int x4), (.int x5), (.int x6), (.int x7)] (.int 0) := by
   have q := Arv.set Ar12 q12 Sz12 Nn12 Hs12 Gf12 (fits_nar_byte _) W14 2 rfl (Nat.le_of_ble_eq_true rfl)
   first | exact q | (simp only [Bl, Pd] at q; exact q)
 have N14 := Fr.snoc X14 N00 g_q0
 have O14 := O0.wr W14 g_q0
 have K14 := K00.wr W14 (Or.inl (List.mem_of_getElem? (i := 0) rfl))
 obtain ⟨T15, X15, e15, st15⟩ := getS2 X14 hx hZ hown (host := "") (Or.inl (Ba hw 119 rfl)) Via.refl e14 (Kd.ext O14.2) (g := (mkF m 47 #[vr q0, vi 3, vi cq] [(.int cq), (.int 3), (.ref q0)])) rfl (hb hby Kf)
 obtain ⟨cl16, Ar16, q16, Sz16, Nn16, Hs16, Gf16⟩ := id V14
 have hin17 := inb_of (j := 3) Sz16 ⟨by decide, by decide⟩
 obtain ⟨T18, h18, X18, e18, W18, st18⟩ := stB X15 hx hZ e15 Ar16 (j := 3) hin17 (g := (mkF m 52 #[vr q0, vi 3, vi cq] [(.int ((cq >>> ((8 : Int32) &&& 31)).toInt8.toInt32)), (.int 3), (.ref q0)])) rfl rfl (hb hby Pf)
 have V18 : Arv Z h18 q0 k0 .byte (8 : Int32) [(.int x0), (.int x1), (.int ((cq >>> ((0 : Int32) &&& 31)).toInt8.toInt32)), (.int ((cq >>> ((8 : Int32) &&& 31)).toInt8.toInt32)), (.int x4), (.int x5), (.int x6), (.int x7)] (.int 0) := by
   have q := Arv.set Ar16 q16 Sz16 Nn16 Hs16 Gf16 (fits_nar_byte _) W18 3 rfl (Nat.le_of_ble_eq_true rfl)
   first | exact q | (simp only [Bl, Pd] at q; exact q)
 have N18 := Fr.snoc X18 N14 g_q0
 have O18 := O14.wr W18 g_q0
 have K18 := K14.wr W18 (Or.inl (List.mem_of_getElem? (i := 0) rfl))
 have k19 : Ab p e below m s₁ #[(.ref q0), (.int 1), (.int cq)] 3 T18 53 #[vr q0, vi 3, vi cq] [] := by
  intro t k
  refine k00 t ?_
  refine st10 _ ?_
  refine XS.ifYes X10.here hx rfl (pc0 := 3) (pc' := 28) rfl (hb hby Vf) rfl ((if0 _ _).trans (feq (by decide : ¬ ((1 : Int32) = (0 : Int32)))).2) (by decide) (by decide) ?_
  refine Pa X10 hx hby Ke rfl ?_
  refine XS.iconst X10.here hx rfl (hb hby Le) ?_
  refine XS.ishl X10.here hx rfl (hb hby Me) rfl ?_
  show Za p e below m T10 31 #[vr q0, vi 1, vi cq] [(.int ((1 : Int32) <<< ((1 : Int32) &&& 31)))] t
  rw [Kwa]
  refine XS.istoreN X10.here hx rfl (hb hby Pe) rfl (l' := #[vr q0, vi 2, vi cq]) rfl ?_
  refine Va X10 hx hby Re rfl rfl ?_
  refine Pa X10 hx hby Ue rfl ?_
  refine XS.iinc X10.here hx rfl (hb hby Ve) rfl (l' := #[vr q0, vi ((2 : Int32) + (1 : Int32)), vi cq]) rfl ?_
  rw [Lv]
  refine Pa X10 hx hby We rfl ?_
  refine st11 _ ?_
  refine XS.ishr X11.here hx rfl (hb hby Ze) rfl ?_
  refine XS.i2b X11.here hx rfl (hb hby Af) rfl ?_
  refine st14 _ ?_
  refine Va X14 hx hby Df rfl rfl ?_
  refine Pa X14 hx hby Gf rfl ?_
  show Za p e below m T14 46 #[vr q0, vi 3, vi cq] [(.int 3), (.ref q0)] t
  refine Pa X14 hx hby Hf rfl ?_
  refine st15 _ ?_
  refine XS.ishr X15.here hx rfl (hb hby Lf) rfl ?_
  refine XS.i2b X15.here hx rfl (hb hby Mf) rfl ?_
  refine st18 _ ?_
  exact k
 exact Yg hNG hlk X18 e18 (by decide) (by decide) (fun fs hr => k19 _ (X18.returnOut hx hret (hb hby Rf) hr)) ⟨rfl, N18, O18, K18, V18⟩
theorem own_z8 : ((5 : Int32) <<< ((1 : Int32) &&& 31)) = (10 : Int32) := by decide
theorem rm_f4 (l : Launch) (Z : State) (a0 : Array Value) (hw : Pb a0 Z) (ws : List Jvm.Cond) (Ra Ya Ia Ua Ka Ga Ma : Addr) (Da : Int32) (Aa : Value) (h0 : Heap) (n0 : Nat) (O0 : Old Z n0 h0) (hE : EV Z Ra Ya Ia Ua Ka Ga Ma Da Aa) :
   Ib l Hca (Jvm.Cond.code Hca jdk_52_method_3_code 1 (some .int) :: ws) (Hb 0 0 0 0) #[(.int 5)] Z h0 (fun v h L => v = some (.int 10) ∧ Fr n0 L ∧ h = h0) := by
 refine Db (plainFor_of_name Bb) n0 [] fun p e s m below meth c s₁ hx hby hml hown hnm hret hlk X00 e00 hZ N00 K00 hNG => ?_
 have k00 : Ab p e below m s₁ #[(.int 5)] 1 s₁ 0 #[vi 5] [] := fun t k => castTop (K6 m (5 : Int32) ) k
 have k10 : Ab p e below m s₁ #[(.int 5)] 1 s₁ 58 #[vi 5] [(.int 10)] := by
  intro t k
  refine k00 t ?_
  refine Pa X00 hx hby Dv rfl ?_
  refine XS.ifYes X00.here hx rfl (pc0 := 1) (pc' := 12) rfl (hb hby Gv) rfl ((if0 _ _).trans (flt (by decide : ¬ ((5 : Int32) < (0 : Int32)))).2.1) (by decide) (by decide) ?_
  refine Pa X00 hx hby Yt rfl ?_
  refine X00.ldcI hx hown (mvT hZ (Ba hw 92 rfl)) rfl (hb hby Zt) ?_
  refine XS.icmpYes X00.here hx rfl (pc0 := 15) (pc' := 55) rfl (hb hby Au) rfl (tlt (by decide : (5 : Int32) < (1073741823 : Int32))).1 (by decide) (by decide) ?_
  refine Pa X00 hx hby Bu rfl ?_
  refine XS.iconst X00.here hx rfl (hb hby Du) ?_
  refine XS.ishl X00.here hx rfl (hb hby Gu) rfl ?_
  show Za p e below m s₁ 58 #[vi 5] [(.int ((5 : Int32) <<< ((1 : Int32) &&& 31)))] t
  rw [own_z8]
  exact k
 exact Zb (.int 10) hNG hlk hret X00 e00 (by decide) (by decide) (fun fs hr => k10 _ (retOut X00 hx (t := .int) hret rfl (Or.inl ⟨rfl, Or.inl rfl, _, rfl⟩) (hb hby Hu) hr)) ⟨rfl, N00, rfl⟩
theorem rm_nb5 (l : Launch) (Z : State) (a0 : Array Value) (hw : Pb a0 Z) (ws : List Jvm.Cond) (Ra Ya Ia Ua Ka Ga Ma : Addr) (Da : Int32) (Aa : Value) (h0 : Heap) (n0 : Nat) (O0 : Old Z n0 h0) (hE : EV Z Ra Ya Ia Ua Ka Ga Ma Da Aa) :
   Ib l Ica (Jvm.Cond.code Ica jdk_52_method_2_code 1 (some (.array .byte)) :: ws) (Hb 1 1 10 12) #[(.int 5)] Z h0 (fun v h L => ∃ (b : Addr) (k : ClassId), v = some (.ref b) ∧ Fr n0 L ∧ Old Z n0 h ∧ Keep h0 h [] ∧ n0 ≤ b ∧ h0.size ≤ b ∧ Arv Z h b k .byte (10 : Int32) [(.int 0), (.int 0), (.int 0), (.int 0), (.int 0), (.int 0), (.int 0), (.int 0), (.int 0), (.int 0)] (.int 0) ∧ Exa Z h b "[B") := by
 refine Db (plainFor_of_name Bb) n0 [] fun p e s m below meth c s₁ hx hby hml hown hnm hret hlk X00 e00 hZ N00 K00 hNG => ?_
 have k00 : Ab p e below m s₁ #[(.int 5)] 1 s₁ 0 #[vi 5] [] := fun t k => castTop (K6 m (5 : Int32) ) k
 obtain ⟨v10, T10, Lc10, X10, hQ10, st10⟩ := Ub X00 hx hZ hown (rm_f4 l Z a0 hw []  _ _ _ _ _ _ _ _ _ h0 n0 O0 hE ) (Ba hw 89 rfl) (Ba hw 90 rfl) (Ba hw 87 rfl) (Ba hw 91 rfl) e00 (g := (mkF m 1 #[vi 5] [(.int 5)])) rfl (by rw [hml]; rfl) (argsL := [(.int 5)]) (rest := []) rfl (lenOf Gza rfl) rfl (W := 0) (by show 2 * 0 + _ ≤ _; exact Nat.le_of_eq rfl) (hb hby Bv) (by decide) (by decide) (by decide) (by decide) (by decide)
 obtain ⟨rfl, N10q, hp10⟩ := hQ10
 have N10 := Fr.app N00 N10q
 obtain ⟨T11, h11, c11, X11, e11, E11, A11, Ex11, st11⟩ := newPE X10 hx hZ (Ba hw 10 rfl) hp10 (g := (mkF m 4 #[vi 5] [(.int 10)])) rfl (hb hby Hv) rfl (by decide) (cap := 10) (by decide) (by decide) (by decide) (by decide) (ad := "[B") (by decide)
 obtain ⟨b11, g11⟩ : ∃ z, z = h0.size := ⟨_, rfl⟩
 rw [← g11] at A11 st11 Ex11
 have O11 := O0.ext E11
 have g_b11 : n0 ≤ b11 := Nat.le_trans (Nat.le_of_eq O0.1.symm) (Nat.le_trans O0.2.1 (Nat.le_of_eq g11.symm))
 have s_b11 : h0.size ≤ b11 := Nat.le_trans K00.1 (Nat.le_of_eq g11.symm)
 have K11 := K00.ext E11
 have V11 : Arv Z h11 b11 c11 .byte (10 : Int32) [(.int 0), (.int 0), (.int 0), (.int 0), (.int 0), (.int 0), (.int 0), (.int 0), (.int 0), (.int 0)] (.int 0) := (Arv.new A11 (by decide)).pad (pad_rep [] (.int 0) 10)
 have lt_b11 := V11.lt
 have k12 : Ab p e below m s₁ #[(.int 5)] 1 T11 6 #[vi 5] [(.ref b11)] := by
  intro t k
  refine k00 t ?_
  refine Pa X00 hx hby Av rfl ?_
  refine st10 _ ?_
  refine st11 _ ?_
  exact k
 exact Zb (.ref b11) hNG hlk hret X11 e11 (by decide) (by decide) (fun fs hr => k12 _ (retOut X11 hx (t := (.array .byte)) hret rfl (Or.inr (Or.inr (Or.inr (Or.inr ⟨rfl, rfl, rfl⟩)))) (hb hby Iv) hr)) ⟨b11, c11, rfl, N10, O11, K11, g_b11, s_b11, V11, Ex11⟩
theorem V5a (l : Launch) (Z : State) (a0 : Array Value) (hw : Pb a0 Z) (ws : List Jvm.Cond) (q0 : Addr) (k0 : ClassId) (cq x0 x1 x2 x3 x4 x5 x6 x7 x8 x9 : Int32) (Ra Ya Ia Ua Ka Ga Ma : Addr) (Da : Int32) (Aa : Value) (h0 : Heap) (n0 : Nat) (O0 : Old Z n0 h0) (hE : EV Z Ra Ya Ia Ua Ka Ga Ma Da Aa) (P0 : Arv Z h0 q0 k0 .byte (10 : Int32) [(.int x0), (.int x1), (.int x2), (.int x3), (.int x4), (.int x5), (.int x6), (.int x7), (.int x8), (.int x9)] (.int 0)) (g_q0 : n0 ≤ q0) :
   Ib l Ut (Jvm.Cond.code Ut jdk_52_method_4_code 3 none :: ws) (Hb 0 0 0 0) #[(.ref q0), (.int 0), (.int cq)] Z h0 (fun v h L => v = none ∧ Fr n0 L ∧ Old Z n0 h ∧ Keep h0 h [q0] ∧ Arv Z h q0 k0 .byte (10 : Int32) [(.int ((cq >>> ((0 : Int32) &&& 31)).toInt8.toInt32)), (.int ((cq >>> ((8 : Int32) &&& 31)).toInt8.toInt32)), (.int x2), (.int x3), (.int x4), (.int x5), (.int x6), (.int x7), (.int x8), (.int x9)] (.int 0)) := by
 refine Db (plainFor_of_name Bb) n0 [q0] fun p e s m below meth c s₁ hx hby hml hown hnm hret hlk X00 e00 hZ N00 K00 hNG => ?_
 have k00 : Ab p e below m s₁ #[(.ref q0), (.int 0), (.int cq)] 3 s₁ 0 #[vr q0, vi 0, vi cq] [] := fun t k => castTop (Kv m q0 (0 : Int32) cq ) k
 obtain ⟨_, _, _, _, _, _, _, _, _, _, _, _, _, _, _, _, _, _, Dc, Id, Kd, _⟩ := id hE
 obtain ⟨T10, X10, e10, st10⟩ := getS2 X00 hx hZ hown (host := "") (Or.inl (Ba hw 117 rfl)) Via.refl e00 (Dc.ext O0.2) (g := (mkF m 0 #[vr q0, vi 0, vi cq] [])) rfl (hb hby Uf)
 obtain ⟨T11, X11, e11, st11⟩ := getS2 X10 hx hZ hown (host := "") (Or.inl (Ba hw 118 rfl)) Via.refl e10 (Id.ext O0.2) (g := (mkF m 38 #[vr q0, vi 1, vi cq] [(.int cq), (.int 0), (.ref q0)])) rfl (hb hby Ye)
 obtain ⟨cl12, Ar12, q12, Sz12, Nn12, Hs12, Gf12⟩ := id P0
 have hin13 := inb_of (j := 0) Sz12 ⟨by decide, by decide⟩
 obtain ⟨T14, h14, X14, e14, W14, st14⟩ := stB X11 hx hZ e11 Ar12 (j := 0) hin13 (g := (mkF m 43 #[vr q0, vi 1, vi cq] [(.int ((cq >>> ((0 : Int32) &&& 31)).toInt8.toInt32)), (.int 0), (.ref q0)])) rfl rfl (hb hby Bf)
 have V14 : Arv Z h14 q0 k0 .byte (10 : Int32) [(.int ((cq >>> ((0 : Int32) &&& 31)).toInt8.toInt32)), (.int x1), (.int x2), (.int x3), (.int x4), (.int x5), (.int x6), (.int x7), (.int x8), (.int x9)] (.int 0) := by
   have q := Arv.set Ar12 q12 Sz12 Nn12 Hs12 Gf12 (fits_nar_byte _) W14 0 rfl (Nat.le_of_ble_eq_true rfl)
   first | exact q | (simp only [Bl, Pd] at q; exact q)
 have N14 := Fr.snoc X14 N00 g_q0
 have O14 := O0.wr W14 g_q0
 have K14 := K00.wr W14 (Or.inl (List.mem_of_getElem? (i := 0) rfl))
 obtain ⟨T15, X15, e15, st15⟩ := getS2 X14 hx hZ hown (host := "") (Or.inl (Ba hw 119 rfl)) Via.refl e14 (Kd.ext O14.2) (g := (mkF m 47 #[vr q0, vi 1, vi cq] [(.int cq), (.int 1), (.ref q0)])) rfl (hb hby Kf)
 obtain ⟨cl16, Ar16, q16, Sz16, Nn16, Hs16, Gf16⟩ := id V14
 have hin17 := inb_of (j := 1) Sz16 ⟨by decide, by decide⟩
 obtain ⟨T18, h18, X18, e18, W18, st18⟩ := stB X15 hx hZ e15 Ar16 (j := 1) hin17 (g := (mkF m 52 #[vr q0, vi 1, vi cq] [(.int ((cq >>> ((8 : Int32) &&& 31)).toInt8.toInt32)), (.int 1), (.ref q0)])) rfl rfl (hb hby Pf)
 have V18 : Arv Z h18 q0 k0 .byte (10 : Int32) [(.int ((cq >>> ((0 : Int32) &&& 31)).toInt8.toInt32)), (.int ((cq >>> ((8 : Int32) &&& 31)).toInt8.toInt32)), (.int x2), (.int x3), (.int x4), (.int x5), (.int x6), (.int x7), (.int x8), (.int x9)] (.int 0) := by
   have q := Arv.set Ar16 q16 Sz16 Nn16 Hs16 Gf16 (fits_nar_byte _) W18 1 rfl (Nat.le_of_ble_eq_true rfl)
   first | exact q | (simp only [Bl, Pd] at q; exact q)
 have N18 := Fr.snoc X18 N14 g_q0
 have O18 := O14.wr W18 g_q0
 have K18 := K14.wr W18 (Or.inl (List.mem_of_getElem? (i := 0) rfl))
 have k19 : Ab p e below m s₁ #[(.ref q0), (.int 0), (.int cq)] 3 T18 53 #[vr q0, vi 1, vi cq] [] := by
  intro t k
  refine k00 t ?_
  refine st10 _ ?_
  refine XS.ifYes X10.here hx rfl (pc0 := 3) (pc' := 28) rfl (hb hby Vf) rfl ((if0 _ _).trans (feq (by decide : ¬ ((1 : Int32) = (0 : Int32)))).2) (by decide) (by decide) ?_
  refine Pa X10 hx hby Ke rfl ?_
  refine XS.iconst X10.here hx rfl (hb hby Le) ?_
  refine XS.ishl X10.here hx rfl (hb hby Me) rfl ?_
  show Za p e below m T10 31 #[vr q0, vi 0, vi cq] [(.int ((0 : Int32) <<< ((1 : Int32) &&& 31)))] t
  rw [R0a]
  refine XS.istoreN X10.here hx rfl (hb hby Pe) rfl (l' := #[vr q0, vi 0, vi cq]) rfl ?_
  refine Va X10 hx hby Re rfl rfl ?_
  refine Pa X10 hx hby Ue rfl ?_
  refine XS.iinc X10.here hx rfl (hb hby Ve) rfl (l' := #[vr q0, vi ((0 : Int32) + (1 : Int32)), vi cq]) rfl ?_
  rw [Mh]
  refine Pa X10 hx hby We rfl ?_
  refine st11 _ ?_
  refine XS.ishr X11.here hx rfl (hb hby Ze) rfl ?_
  refine XS.i2b X11.here hx rfl (hb hby Af) rfl ?_
  refine st14 _ ?_
  refine Va X14 hx hby Df rfl rfl ?_
  refine Pa X14 hx hby Gf rfl ?_
  show Za p e below m T14 46 #[vr q0, vi 1, vi cq] [(.int 1), (.ref q0)] t
  refine Pa X14 hx hby Hf rfl ?_
  refine st15 _ ?_
  refine XS.ishr X15.here hx rfl (hb hby Lf) rfl ?_
  refine XS.i2b X15.here hx rfl (hb hby Mf) rfl ?_
  refine st18 _ ?_
  exact k
 exact Yg hNG hlk X18 e18 (by decide) (by decide) (fun fs hr => k19 _ (X18.returnOut hx hret (hb hby Rf) hr)) ⟨rfl, N18, O18, K18, V18⟩
theorem W5a (l : Launch) (Z : State) (a0 : Array Value) (hw : Pb a0 Z) (ws : List Jvm.Cond) (q0 : Addr) (k0 : ClassId) (cq x0 x1 x2 x3 x4 x5 x6 x7 x8 x9 : Int32) (Ra Ya Ia Ua Ka Ga Ma : Addr) (Da : Int32) (Aa : Value) (h0 : Heap) (n0 : Nat) (O0 : Old Z n0 h0) (hE : EV Z Ra Ya Ia Ua Ka Ga Ma Da Aa) (P0 : Arv Z h0 q0 k0 .byte (10 : Int32) [(.int x0), (.int x1), (.int x2), (.int x3), (.int x4), (.int x5), (.int x6), (.int x7), (.int x8), (.int x9)] (.int 0)) (g_q0 : n0 ≤ q0) :
   Ib l Ut (Jvm.Cond.code Ut jdk_52_method_4_code 3 none :: ws) (Hb 0 0 0 0) #[(.ref q0), (.int 1), (.int cq)] Z h0 (fun v h L => v = none ∧ Fr n0 L ∧ Old Z n0 h ∧ Keep h0 h [q0] ∧ Arv Z h q0 k0 .byte (10 : Int32) [(.int x0), (.int x1), (.int ((cq >>> ((0 : Int32) &&& 31)).toInt8.toInt32)), (.int ((cq >>> ((8 : Int32) &&& 31)).toInt8.toInt32)), (.int x4), (.int x5), (.int x6), (.int x7), (.int x8), (.int x9)] (.int 0)) := by
 refine Db (plainFor_of_name Bb) n0 [q0] fun p e s m below meth c s₁ hx hby hml hown hnm hret hlk X00 e00 hZ N00 K00 hNG => ?_
 have k00 : Ab p e below m s₁ #[(.ref q0), (.int 1), (.int cq)] 3 s₁ 0 #[vr q0, vi 1, vi cq] [] := fun t k => castTop (Kv m q0 (1 : Int32) cq ) k
 obtain ⟨_, _, _, _, _, _, _, _, _, _, _, _, _, _, _, _, _, _, Dc, Id, Kd, _⟩ := id hE
 obtain ⟨T10, X10, e10, st10⟩ := getS2 X00 hx hZ hown (host := "") (Or.inl (Ba hw 117 rfl)) Via.refl e00 (Dc.ext O0.2) (g := (mkF m 0 #[vr q0, vi 1, vi cq] [])) rfl (hb hby Uf)
 obtain ⟨T11, X11, e11, st11⟩ := getS2 X10 hx hZ hown (host := "") (Or.inl (Ba hw 118 rfl)) Via.refl e10 (Id.ext O0.2) (g := (mkF m 38 #[vr q0, vi 3, vi cq] [(.int cq), (.int 2), (.ref q0)])) rfl (hb hby Ye)
 obtain ⟨cl12, Ar12, q12, Sz12, Nn12, Hs12, Gf12⟩ := id P0
 have hin13 := inb_of (j := 2) Sz12 ⟨by decide, by decide⟩
 obtain ⟨T14, h14, X14, e14, W14, st14⟩ := stB X11 hx hZ e11 Ar12 (j := 2) hin13 (g := (mkF m 43 #[vr q0, vi 3, vi cq] [(.int ((cq >>> ((0 : Int32) &&& 31)).toInt8.toInt32)), (.int 2), (.ref q0)])) rfl rfl (hb hby Bf)
 have V14 : Arv Z h14 q0 k0 .byte (10 : Int32) [(.int x0), (.int x1), (.int ((cq >>> ((0 : Int32) &&& 31)).toInt8.toInt32)), (.int x3), (.int x4), (.int x5), (.int x6), (.int x7), (.int x8), (.int x9)] (.int 0) := by
   have q := Arv.set Ar12 q12 Sz12 Nn12 Hs12 Gf12 (fits_nar_byte _) W14 2 rfl (Nat.le_of_ble_eq_true rfl)
   first | exact q | (simp only [Bl, Pd] at q; exact q)
 have N14 := Fr.snoc X14 N00 g_q0
 have O14 := O0.wr W14 g_q0
 have K14 := K00.wr W14 (Or.inl (List.mem_of_getElem? (i := 0) rfl))
 obtain ⟨T15, X15, e15, st15⟩ := getS2 X14 hx hZ hown (host := "") (Or.inl (Ba hw 119 rfl)) Via.refl e14 (Kd.ext O14.2) (g := (mkF m 47 #[vr q0, vi 3, vi cq] [(.int cq), (.int 3), (.ref q0)])) rfl (hb hby Kf)
 obtain ⟨cl16, Ar16, q16, Sz16, Nn16, Hs16, Gf16⟩ := id V14
 have hin17 := inb_of (j := 3) Sz16 ⟨by decide, by decide⟩
 obtain ⟨T18, h18, X18, e18, W18, st18⟩ := stB X15 hx hZ e15 Ar16 (j := 3) hin17 (g := (mkF m 52 #[vr q0, vi 3, vi cq] [(.int ((cq >>> ((8 : Int32) &&& 31)).toInt8.toInt32)), (.int 3), (.ref q0)])) rfl rfl (hb hby Pf)
 have V18 : Arv Z h18 q0 k0 .byte (10 : Int32) [(.int x0), (.int x1), (.int ((cq >>> ((0 : Int32) &&& 31)).toInt8.toInt32)), (.int ((cq >>> ((8 : Int32) &&& 31)).toInt8.toInt32)), (.int x4), (.int x5), (.int x6), (.int x7), (.int x8), (.int x9)] (.int 0) := by
   have q := Arv.set Ar16 q16 Sz16 Nn16 Hs16 Gf16 (fits_nar_byte _) W18 3 rfl (Nat.le_of_ble_eq_true rfl)
   first | exact q | (simp only [Bl, Pd] at q; exact q)
 have N18 := Fr.snoc X18 N14 g_q0
 have O18 := O14.wr W18 g_q0
 have K18 := K14.wr W18 (Or.inl (List.mem_of_getElem? (i := 0) rfl))
 have k19 : Ab p e below m s₁ #[(.ref q0), (.int 1), (.int cq)] 3 T18 53 #[vr q0, vi 3, vi cq] [] := by
  intro t k
  refine k00 t ?_
  refine st10 _ ?_
  refine XS.ifYes X10.here hx rfl (pc0 := 3) (pc' := 28) rfl (hb hby Vf) rfl ((if0 _ _).trans (feq (by decide : ¬ ((1 : Int32) = (0 : Int32)))).2) (by decide) (by decide) ?_
  refine Pa X10 hx hby Ke rfl ?_
  refine XS.iconst X10.here hx rfl (hb hby Le) ?_
  refine XS.ishl X10.here hx rfl (hb hby Me) rfl ?_
  show Za p e below m T10 31 #[vr q0, vi 1, vi cq] [(.int ((1 : Int32) <<< ((1 : Int32) &&& 31)))] t
  rw [Kwa]
  refine XS.istoreN X10.here hx rfl (hb hby Pe) rfl (l' := #[vr q0, vi 2, vi cq]) rfl ?_
  refine Va X10 hx hby Re rfl rfl ?_
  refine Pa X10 hx hby Ue rfl ?_
  refine XS.iinc X10.here hx rfl (hb hby Ve) rfl (l' := #[vr q0, vi ((2 : Int32) + (1 : Int32)), vi cq]) rfl ?_
  rw [Lv]
  refine Pa X10 hx hby We rfl ?_
  refine st11 _ ?_
  refine XS.ishr X11.here hx rfl (hb hby Ze) rfl ?_
  refine XS.i2b X11.here hx rfl (hb hby Af) rfl ?_
  refine st14 _ ?_
  refine Va X14 hx hby Df rfl rfl ?_
  refine Pa X14 hx hby Gf rfl ?_
  show Za p e below m T14 46 #[vr q0, vi 3, vi cq] [(.int 3), (.ref q0)] t
  refine Pa X14 hx hby Hf rfl ?_
  refine st15 _ ?_
  refine XS.ishr X15.here hx rfl (hb hby Lf) rfl ?_
  refine XS.i2b X15.here hx rfl (hb hby Mf) rfl ?_
  refine st18 _ ?_
  exact k
 exact Yg hNG hlk X18 e18 (by decide) (by decide) (fun fs hr => k19 _ (X18.returnOut hx hret (hb hby Rf) hr)) ⟨rfl, N18, O18, K18, V18⟩
theorem Y5a (l : Launch) (Z : State) (a0 : Array Value) (hw : Pb a0 Z) (ws : List Jvm.Cond) (q0 : Addr) (k0 : ClassId) (cq x0 x1 x2 x3 x4 x5 x6 x7 x8 x9 : Int32) (Ra Ya Ia Ua Ka Ga Ma : Addr) (Da : Int32) (Aa : Value) (h0 : Heap) (n0 : Nat) (O0 : Old Z n0 h0) (hE : EV Z Ra Ya Ia Ua Ka Ga Ma Da Aa) (P0 : Arv Z h0 q0 k0 .byte (10 : Int32) [(.int x0), (.int x1), (.int x2), (.int x3), (.int x4), (.int x5), (.int x6), (.int x7), (.int x8), (.int x9)] (.int 0)) (g_q0 : n0 ≤ q0) :
   Ib l Ut (Jvm.Cond.code Ut jdk_52_method_4_code 3 none :: ws) (Hb 0 0 0 0) #[(.ref q0), (.int 2), (.int cq)] Z h0 (fun v h L => v = none ∧ Fr n0 L ∧ Old Z n0 h ∧ Keep h0 h [q0] ∧ Arv Z h q0 k0 .byte (10 : Int32) [(.int x0), (.int x1), (.int x2), (.int x3), (.int ((cq >>> ((0 : Int32) &&& 31)).toInt8.toInt32)), (.int ((cq >>> ((8 : Int32) &&& 31)).toInt8.toInt32)), (.int x6), (.int x7), (.int x8), (.int x9)] (.int 0)) := by
 refine Db (plainFor_of_name Bb) n0 [q0] fun p e s m below meth c s₁ hx hby hml hown hnm hret hlk X00 e00 hZ N00 K00 hNG => ?_
 have k00 : Ab p e below m s₁ #[(.ref q0), (.int 2), (.int cq)] 3 s₁ 0 #[vr q0, vi 2, vi cq] [] := fun t k => castTop (Kv m q0 (2 : Int32) cq ) k
 obtain ⟨_, _, _, _, _, _, _, _, _, _, _, _, _, _, _, _, _, _, Dc, Id, Kd, _⟩ := id hE
 obtain ⟨T10, X10, e10, st10⟩ := getS2 X00 hx hZ hown (host := "") (Or.inl (Ba hw 117 rfl)) Via.refl e00 (Dc.ext O0.2) (g := (mkF m 0 #[vr q0, vi 2, vi cq] [])) rfl (hb hby Uf)
 obtain ⟨T11, X11, e11, st11⟩ := getS2 X10 hx hZ hown (host := "") (Or.inl (Ba hw 118 rfl)) Via.refl e10 (Id.ext O0.2) (g := (mkF m 38 #[vr q0, vi 5, vi cq] [(.int cq), (.int 4), (.ref q0)])) rfl (hb hby Ye)
 obtain ⟨cl12, Ar12, q12, Sz12, Nn12, Hs12, Gf12⟩ := id P0
 have hin13 := inb_of (j := 4) Sz12 ⟨by decide, by decide⟩
 obtain ⟨T14, h14, X14, e14, W14, st14⟩ := stB X11 hx hZ e11 Ar12 (j := 4) hin13 (g := (mkF m 43 #[vr q0, vi 5, vi cq] [(.int ((cq >>> ((0 : Int32) &&& 31)).toInt8.toInt32)), (.int 4), (.ref q0)])) rfl rfl (hb hby Bf)
 have V14 : Arv Z h14 q0 k0 .byte (10 : Int32) [(.int x0), (.int x1), (.int x2), (.int x3), (.int ((cq >>> ((0 : Int32) &&& 31)).toInt8.toInt32)), (.int x5), (.int x6), (.int x7), (.int x8), (.int x9)] (.int 0) := by
   have q := Arv.set Ar12 q12 Sz12 Nn12 Hs12 Gf12 (fits_nar_byte _) W14 4 rfl (Nat.le_of_ble_eq_true rfl)
   first | exact q | (simp only [Bl, Pd] at q; exact q)
 have N14 := Fr.snoc X14 N00 g_q0
 have O14 := O0.wr W14 g_q0
 have K14 := K00.wr W14 (Or.inl (List.mem_of_getElem? (i := 0) rfl))
 obtain ⟨T15, X15, e15, st15⟩ := getS2 X14 hx hZ hown (host := "") (Or.inl (Ba hw 119 rfl)) Via.refl e14 (Kd.ext O14.2) (g := (mkF m 47 #[vr q0, vi 5, vi cq] [(.int cq), (.int 5), (.ref q0)])) rfl (hb hby Kf)
 obtain ⟨cl16, Ar16, q16, Sz16, Nn16, Hs16, Gf16⟩ := id V14
 have hin17 := inb_of (j := 5) Sz16 ⟨by decide, by decide⟩
 obtain ⟨T18, h18, X18, e18, W18, st18⟩ := stB X15 hx hZ e15 Ar16 (j := 5) hin17 (g := (mkF m 52 #[vr q0, vi 5, vi cq] [(.int ((cq >>> ((8 : Int32) &&& 31)).toInt8.toInt32)), (.int 5), (.ref q0)])) rfl rfl (hb hby Pf)
 have V18 : Arv Z h18 q0 k0 .byte (10 : Int32) [(.int x0), (.int x1), (.int x2), (.int x3), (.int ((cq >>> ((0 : Int32) &&& 31)).toInt8.toInt32)), (.int ((cq >>> ((8 : Int32) &&& 31)).toInt8.toInt32)), (.int x6), (.int x7), (.int x8), (.int x9)] (.int 0) := by
   have q := Arv.set Ar16 q16 Sz16 Nn16 Hs16 Gf16 (fits_nar_byte _) W18 5 rfl (Nat.le_of_ble_eq_true rfl)
   first | exact q | (simp only [Bl, Pd] at q; exact q)
 have N18 := Fr.snoc X18 N14 g_q0
 have O18 := O14.wr W18 g_q0
 have K18 := K14.wr W18 (Or.inl (List.mem_of_getElem? (i := 0) rfl))
 have k19 : Ab p e below m s₁ #[(.ref q0), (.int 2), (.int cq)] 3 T18 53 #[vr q0, vi 5, vi cq] [] := by
  intro t k
  refine k00 t ?_
  refine st10 _ ?_
  refine XS.ifYes X10.here hx rfl (pc0 := 3) (pc' := 28) rfl (hb hby Vf) rfl ((if0 _ _).trans (feq (by decide : ¬ ((1 : Int32) = (0 : Int32)))).2) (by decide) (by decide) ?_
  refine Pa X10 hx hby Ke rfl ?_
  refine XS.iconst X10.here hx rfl (hb hby Le) ?_
  refine XS.ishl X10.here hx rfl (hb hby Me) rfl ?_
  show Za p e below m T10 31 #[vr q0, vi 2, vi cq] [(.int ((2 : Int32) <<< ((1 : Int32) &&& 31)))] t
  rw [Uxa]
  refine XS.istoreN X10.here hx rfl (hb hby Pe) rfl (l' := #[vr q0, vi 4, vi cq]) rfl ?_
  refine Va X10 hx hby Re rfl rfl ?_
  refine Pa X10 hx hby Ue rfl ?_
  refine XS.iinc X10.here hx rfl (hb hby Ve) rfl (l' := #[vr q0, vi ((4 : Int32) + (1 : Int32)), vi cq]) rfl ?_
  rw [U0a]
  refine Pa X10 hx hby We rfl ?_
  refine st11 _ ?_
  refine XS.ishr X11.here hx rfl (hb hby Ze) rfl ?_
  refine XS.i2b X11.here hx rfl (hb hby Af) rfl ?_
  refine st14 _ ?_
  refine Va X14 hx hby Df rfl rfl ?_
  refine Pa X14 hx hby Gf rfl ?_
  show Za p e below m T14 46 #[vr q0, vi 5, vi cq] [(.int 5), (.ref q0)] t
  refine Pa X14 hx hby Hf rfl ?_
  refine st15 _ ?_
  refine XS.ishr X15.here hx rfl (hb hby Lf) rfl ?_
  refine XS.i2b X15.here hx rfl (hb hby Mf) rfl ?_
  refine st18 _ ?_
  exact k
 exact Yg hNG hlk X18 e18 (by decide) (by decide) (fun fs hr => k19 _ (X18.returnOut hx hret (hb hby Rf) hr)) ⟨rfl, N18, O18, K18, V18⟩
theorem Axa (m : MethodId) (x0 : Addr) (x1 : Int32) (x2 : Addr) (x3 : Int32) (x4 : Int32)  : entryFrame m #[(.ref x0), (.int x1), (.ref x2), (.int x3), (.int x4)] 7 = mkF m 0 #[.val (.ref x0), .val (.int x1), .val (.ref x2), .val (.int x3), .val (.int x4), .unset, .unset] [] := by first | (simp [entryFrame, mkF, argsToLocals, Value.category]; done) | rfl
abbrev Kb : ByteArray := jdk_52_method_21_code
theorem H1 : decode Kb 0 = .ok (.iconst 0, 1) := by decide +kernel
theorem I1 : decode Kb 1 = .ok (.istore 5, 2) := by decide +kernel
theorem Ph : decode Kb 3 = .ok (.iload 5, 2) := by decide +kernel
theorem Rh : decode Kb 5 = .ok (.iload 4, 2) := by decide +kernel
theorem Uh : decode Kb 7 = .ok (.if_icmp .ge 37, 3) := by decide +kernel
theorem Bi : decode Kb 10 = .ok (.aload_n 0, 1) := by decide +kernel
theorem Di : decode Kb 11 = .ok (.iload_n 1, 1) := by decide +kernel
theorem Gi : decode Kb 12 = .ok (.caload, 1) := by decide +kernel
theorem Hi : decode Kb 13 = .ok (.istore 6, 2) := by decide +kernel
theorem Ii : decode Kb 15 = .ok (.iload 6, 2) := by decide +kernel
theorem Ki : decode Kb 17 = .ok (.sipush 255, 3) := by decide +kernel
theorem Li : decode Kb 20 = .ok (.if_icmp .le 6, 3) := by decide +kernel
theorem Yr : decode Kb 26 = .ok (.aload_n 2, 1) := by decide +kernel
theorem Zr : decode Kb 27 = .ok (.iload_n 3, 1) := by decide +kernel
theorem As : decode Kb 28 = .ok (.iload 6, 2) := by decide +kernel
theorem Bs : decode Kb 30 = .ok (.i2b, 1) := by decide +kernel
theorem Ds : decode Kb 31 = .ok (.bastore, 1) := by decide +kernel
theorem Gs : decode Kb 32 = .ok (.iinc 1 1, 3) := by decide +kernel
theorem Hs : decode Kb 35 = .ok (.iinc 3 1, 3) := by decide +kernel
theorem Is : decode Kb 38 = .ok (.iinc 5 1, 3) := by decide +kernel
theorem Ks : decode Kb 41 = .ok (.goto (-38), 3) := by decide +kernel
theorem Hm : ((1 : Int32) + (1 : Int32)) = (2 : Int32) := by decide
theorem Wka : decode Kb 44 = .ok (.iload 4, 2) := by decide +kernel
theorem Yka : decode Kb 46 = .ok (.ireturn, 1) := by decide +kernel
abbrev Lwa : MethodName := ⟨"java/lang/StringUTF16", "compress", "([CI[BII)I"⟩
theorem Z5a (l : Launch) (Z : State) (a0 : Array Value) (hw : Pb a0 Z) (ws : List Jvm.Cond) (t0 t1 : Addr) (k0 k1 : ClassId) (c0 c1 : Int32) (Ra Ya Ia Ua Ka Ga Ma : Addr) (Da : Int32) (Aa : Value) (h0 : Heap) (n0 : Nat) (O0 : Old Z n0 h0) (hE : EV Z Ra Ya Ia Ua Ka Ga Ma Da Aa) (P0 : Arv Z h0 t0 k0 .char (2 : Int32) [(.int c0), (.int c1)] (.int 0)) (P1 : Arv Z h0 t1 k1 .byte (2 : Int32) [(.int 0), (.int 0)] (.int 0)) (g_t1 : n0 ≤ t1) (nt : ¬ (t0 = t1)) (l0 : ¬ ((255 : Int32) < c0)) (l1 : ¬ ((255 : Int32) < c1)) :
   Ib l Lwa (Jvm.Cond.code Lwa jdk_52_method_21_code 7 (some .int) :: ws) (Hb 0 0 0 0) #[(.ref t0), (.int 0), (.ref t1), (.int 0), (.int 2)] Z h0 (fun v h L => v = some (.int 2) ∧ Fr n0 L ∧ Old Z n0 h ∧ Keep h0 h [t1] ∧ Arv Z h t1 k1 .byte (2 : Int32) [(.int (c0.toInt8.toInt32)), (.int (c1.toInt8.toInt32))] (.int 0)) := by
 refine Db (plainFor_of_name Bb) n0 [t1] fun p e s m below meth c s₁ hx hby hml hown hnm hret hlk X00 e00 hZ N00 K00 hNG => ?_
 have k00 : Ab p e below m s₁ #[(.ref t0), (.int 0), (.ref t1), (.int 0), (.int 2)] 7 s₁ 0 #[vr t0, vi 0, vr t1, vi 0, vi 2, .unset, .unset] [] := fun t k => castTop (Axa m t0 (0 : Int32) t1 (0 : Int32) (2 : Int32) ) k
 obtain ⟨cl10, Ar10, q10, Sz10, Nn10, Hs10, Gf10⟩ := id P0
 have hin11 := inb_of (j := 0) Sz10 ⟨by decide, by decide⟩
 have hat12 : cl10.slots[((0 : Int32)).toNatClampNeg]? = some (.int c0) := Hs10.at hin11 rfl
 obtain ⟨cl13, Ar13, q13, Sz13, Nn13, Hs13, Gf13⟩ := id P1
 have hin14 := inb_of (j := 0) Sz13 ⟨by decide, by decide⟩
 obtain ⟨T15, h15, X15, e15, W15, st15⟩ := stB X00 hx hZ e00 Ar13 (j := 0) hin14 (g := (mkF m 31 #[vr t0, vi 0, vr t1, vi 0, vi 2, vi 0, vi c0] [(.int (c0.toInt8.toInt32)), (.int 0), (.ref t1)])) rfl rfl (hb hby Ds)
 have V15 : Arv Z h15 t1 k1 .byte (2 : Int32) [(.int (c0.toInt8.toInt32)), (.int 0)] (.int 0) := by
   have q := Arv.set Ar13 q13 Sz13 Nn13 Hs13 Gf13 (fits_nar_byte _) W15 0 rfl (Nat.le_of_ble_eq_true rfl)
   first | exact q | (simp only [Bl, Pd] at q; exact q)
 have N15 := Fr.snoc X15 N00 g_t1
 have O15 := O0.wr W15 g_t1
 have K15 := K00.wr W15 (Or.inl (List.mem_of_getElem? (i := 0) rfl))
 have f16 := (P0.other W15 nt)
 obtain ⟨cl17, Ar17, q17, Sz17, Nn17, Hs17, Gf17⟩ := id f16
 have hin18 := inb_of (j := 1) Sz17 ⟨by decide, by decide⟩
 have hat19 : cl17.slots[((1 : Int32)).toNatClampNeg]? = some (.int c1) := Hs17.at hin18 rfl
 obtain ⟨cl20, Ar20, q20, Sz20, Nn20, Hs20, Gf20⟩ := id V15
 have hin21 := inb_of (j := 1) Sz20 ⟨by decide, by decide⟩
 obtain ⟨T22, h22, X22, e22, W22, st22⟩ := stB X15 hx hZ e15 Ar20 (j := 1) hin21 (g := (mkF m 31 #[vr t0, vi 1, vr t1, vi 1, vi 2, vi 1, vi c1] [(.int (c1.toInt8.toInt32)), (.int 1), (.ref t1)])) rfl rfl (hb hby Ds)
 have V22 : Arv Z h22 t1 k1 .byte (2 : Int32) [(.int (c0.toInt8.toInt32)), (.int (c1.toInt8.toInt32))] (.int 0) := by
   have q := Arv.set Ar20 q20 Sz20 Nn20 Hs20 Gf20 (fits_nar_byte _) W22 1 rfl (Nat.le_of_ble_eq_true rfl)
   first | exact q | (simp only [Bl, Pd] at q; exact q)
 have N22 := Fr.snoc X22 N15 g_t1
 have O22 := O15.wr W22 g_t1
 have K22 := K15.wr W22 (Or.inl (List.mem_of_getElem? (i := 0) rfl))
 have k23 : Ab p e below m s₁ #[(.ref t0), (.int 0), (.ref t1), (.int 0), (.int 2)] 7 T22 46 #[vr t0, vi 2, vr t1, vi 2, vi 2, vi 2, vi c1] [(.int 2)] := by
  intro t k
  refine k00 t ?_
  refine XS.iconst X00.here hx rfl (hb hby H1) ?_
  refine XS.istore X00.here hx rfl (hb hby I1) rfl (l' := #[vr t0, vi 0, vr t1, vi 0, vi 2, vi 0, .unset]) rfl ?_
  refine Wa X00 hx hby Ph rfl ?_
  refine Wa X00 hx hby Rh rfl ?_
  refine XS.icmpNo X00.here hx rfl (hb hby Uh) rfl (tlt (by decide : (0 : Int32) < (2 : Int32))).2.1 ?_
  refine Va X00 hx hby Bi rfl rfl ?_
  refine Pa X00 hx hby Di rfl ?_
  refine X00.caload hx (j := 0) (v := (.int c0)) (by rw [e00]; exact Ar10.1) (State.isArrayOf_alike hZ.alike Ar10.2.1) Ar10.2.2 hin11 hat12 (g := (mkF m 12 #[vr t0, vi 0, vr t1, vi 0, vi 2, vi 0, .unset] [(.int 0), (.ref t0)])) rfl rfl (hb hby Gi) _ ?_
  refine XS.istore X00.here hx rfl (hb hby Hi) rfl (l' := #[vr t0, vi 0, vr t1, vi 0, vi 2, vi 0, vi c0]) rfl ?_
  refine Wa X00 hx hby Ii rfl ?_
  refine XS.sipush X00.here hx rfl (hb hby Ki) ?_
  refine XS.icmpYes X00.here hx rfl (pc0 := 20) (pc' := 26) rfl (hb hby Li) rfl (flt l0).2.2.2 (by decide) (by decide) ?_
  show Za p e below m s₁ 26 #[vr t0, vi 0, vr t1, vi 0, vi 2, vi 0, vi c0] [] t
  refine Va X00 hx hby Yr rfl rfl ?_
  refine Pa X00 hx hby Zr rfl ?_
  refine Wa X00 hx hby As rfl ?_
  refine XS.i2b X00.here hx rfl (hb hby Bs) rfl ?_
  refine st15 _ ?_
  refine XS.iinc X15.here hx rfl (hb hby Gs) rfl (l' := #[vr t0, vi ((0 : Int32) + (1 : Int32)), vr t1, vi 0, vi 2, vi 0, vi c0]) rfl ?_
  rw [Mh]
  refine XS.iinc X15.here hx rfl (hb hby Hs) rfl (l' := #[vr t0, vi 1, vr t1, vi ((0 : Int32) + (1 : Int32)), vi 2, vi 0, vi c0]) rfl ?_
  rw [Mh]
  refine XS.iinc X15.here hx rfl (hb hby Is) rfl (l' := #[vr t0, vi 1, vr t1, vi 1, vi 2, vi ((0 : Int32) + (1 : Int32)), vi c0]) rfl ?_
  rw [Mh]
  refine XS.goto X15.here hx rfl (pc0 := 41) (pc' := 3) rfl (hb hby Ks) (by decide) (by decide) ?_
  refine Wa X15 hx hby Ph rfl ?_
  refine Wa X15 hx hby Rh rfl ?_
  refine XS.icmpNo X15.here hx rfl (hb hby Uh) rfl (tlt (by decide : (1 : Int32) < (2 : Int32))).2.1 ?_
  show Za p e below m T15 10 #[vr t0, vi 1, vr t1, vi 1, vi 2, vi 1, vi c0] [] t
  refine Va X15 hx hby Bi rfl rfl ?_
  refine Pa X15 hx hby Di rfl ?_
  refine X15.caload hx (j := 1) (v := (.int c1)) (by rw [e15]; exact Ar17.1) (State.isArrayOf_alike hZ.alike Ar17.2.1) Ar17.2.2 hin18 hat19 (g := (mkF m 12 #[vr t0, vi 1, vr t1, vi 1, vi 2, vi 1, vi c0] [(.int 1), (.ref t0)])) rfl rfl (hb hby Gi) _ ?_
  refine XS.istore X15.here hx rfl (hb hby Hi) rfl (l' := #[vr t0, vi 1, vr t1, vi 1, vi 2, vi 1, vi c1]) rfl ?_
  refine Wa X15 hx hby Ii rfl ?_
  refine XS.sipush X15.here hx rfl (hb hby Ki) ?_
  refine XS.icmpYes X15.here hx rfl (pc0 := 20) (pc' := 26) rfl (hb hby Li) rfl (flt l1).2.2.2 (by decide) (by decide) ?_
  refine Va X15 hx hby Yr rfl rfl ?_
  refine Pa X15 hx hby Zr rfl ?_
  refine Wa X15 hx hby As rfl ?_
  refine XS.i2b X15.here hx rfl (hb hby Bs) rfl ?_
  refine st22 _ ?_
  show Za p e below m T22 32 #[vr t0, vi 1, vr t1, vi 1, vi 2, vi 1, vi c1] [] t
  refine XS.iinc X22.here hx rfl (hb hby Gs) rfl (l' := #[vr t0, vi ((1 : Int32) + (1 : Int32)), vr t1, vi 1, vi 2, vi 1, vi c1]) rfl ?_
  rw [Hm]
  refine XS.iinc X22.here hx rfl (hb hby Hs) rfl (l' := #[vr t0, vi 2, vr t1, vi ((1 : Int32) + (1 : Int32)), vi 2, vi 1, vi c1]) rfl ?_
  rw [Hm]
  refine XS.iinc X22.here hx rfl (hb hby Is) rfl (l' := #[vr t0, vi 2, vr t1, vi 2, vi 2, vi ((1 : Int32) + (1 : Int32)), vi c1]) rfl ?_
  rw [Hm]
  refine XS.goto X22.here hx rfl (pc0 := 41) (pc' := 3) rfl (hb hby Ks) (by decide) (by decide) ?_
  refine Wa X22 hx hby Ph rfl ?_
  refine Wa X22 hx hby Rh rfl ?_
  refine XS.icmpYes X22.here hx rfl (pc0 := 7) (pc' := 44) rfl (hb hby Uh) rfl (flt (by decide : ¬ ((2 : Int32) < (2 : Int32)))).2.1 (by decide) (by decide) ?_
  refine Wa X22 hx hby Wka rfl ?_
  exact k
 exact Zb (.int 2) hNG hlk hret X22 e22 (by decide) (by decide) (fun fs hr => k23 _ (retOut X22 hx (t := .int) hret rfl (Or.inl ⟨rfl, Or.inl rfl, _, rfl⟩) (hb hby Yka) hr)) ⟨rfl, N22, O22, K22, V22⟩
theorem D0a (m : MethodId) (x0 : Addr) (x1 : Int32) (x2 : Int32)  : entryFrame m #[(.ref x0), (.int x1), (.int x2)] 6 = mkF m 0 #[.val (.ref x0), .val (.int x1), .val (.int x2), .unset, .unset, .unset] [] := by first | (simp [entryFrame, mkF, argsToLocals, Value.category]; done) | rfl
abbrev Gb : ByteArray := jdk_52_method_16_code
theorem K1 : decode Gb 0 = .ok (.iload_n 2, 1) := by decide +kernel
theorem L1 : decode Gb 1 = .ok (.newarray .byte, 2) := by decide +kernel
theorem M1 : decode Gb 3 = .ok (.astore_n 3, 1) := by decide +kernel
theorem R1 : decode Gb 4 = .ok (.aload_n 0, 1) := by decide +kernel
theorem U1 : decode Gb 5 = .ok (.iload_n 1, 1) := by decide +kernel
theorem V1 : decode Gb 6 = .ok (.aload_n 3, 1) := by decide +kernel
theorem W1 : decode Gb 7 = .ok (.iconst 0, 1) := by decide +kernel
theorem Y1 : decode Gb 8 = .ok (.iload_n 2, 1) := by decide +kernel
theorem Z1 : decode Gb 9 = .ok (.invokestatic 115, 3) := by decide +kernel
theorem Zka : parseMethodDescriptor "([CI[BII)I" = some ⟨[(.array .char), .int, (.array .byte), .int, .int], some .int⟩ := by decide +kernel
theorem Hx : decode Gb 12 = .ok (.istore 4, 2) := by decide +kernel
theorem Ix : decode Gb 14 = .ok (.iload 4, 2) := by decide +kernel
theorem Kx : decode Gb 16 = .ok (.iload_n 2, 1) := by decide +kernel
theorem Lx : decode Gb 17 = .ok (.if_icmp .eq 40, 3) := by decide +kernel
theorem Ala : decode Gb 57 = .ok (.aload_n 3, 1) := by decide +kernel
theorem Bla : decode Gb 58 = .ok (.areturn, 1) := by decide +kernel
abbrev Mwa : MethodName := ⟨"java/lang/StringUTF16", "compress", "([CII)[B"⟩
theorem A6a (l : Launch) (Z : State) (a0 : Array Value) (hw : Pb a0 Z) (ws : List Jvm.Cond) (t0 : Addr) (k0 : ClassId) (c0 c1 : Int32) (Ra Ya Ia Ua Ka Ga Ma : Addr) (Da : Int32) (Aa : Value) (h0 : Heap) (n0 : Nat) (O0 : Old Z n0 h0) (hE : EV Z Ra Ya Ia Ua Ka Ga Ma Da Aa) (P0 : Arv Z h0 t0 k0 .char (2 : Int32) [(.int c0), (.int c1)] (.int 0)) (l0 : ¬ ((255 : Int32) < c0)) (l1 : ¬ ((255 : Int32) < c1)) :
   Ib l Mwa (Jvm.Cond.code Mwa jdk_52_method_16_code 6 (some (.array .byte)) :: ws) (Hb 1 1 2 18) #[(.ref t0), (.int 0), (.int 2)] Z h0 (fun v h L => ∃ (b : Addr) (k : ClassId), v = some (.ref b) ∧ Fr n0 L ∧ Old Z n0 h ∧ Keep h0 h [] ∧ n0 ≤ b ∧ h0.size ≤ b ∧ Arv Z h b k .byte (2 : Int32) [(.int (c0.toInt8.toInt32)), (.int (c1.toInt8.toInt32))] (.int 0)) := by
 refine Db (plainFor_of_name Bb) n0 [] fun p e s m below meth c s₁ hx hby hml hown hnm hret hlk X00 e00 hZ N00 K00 hNG => ?_
 have k00 : Ab p e below m s₁ #[(.ref t0), (.int 0), (.int 2)] 6 s₁ 0 #[vr t0, vi 0, vi 2, .unset, .unset, .unset] [] := fun t k => castTop (D0a m t0 (0 : Int32) (2 : Int32) ) k
 obtain ⟨T10, h10, c10, X10, e10, E10, A10, Ex10, st10⟩ := newPE X00 hx hZ (Ba hw 10 rfl) e00 (g := (mkF m 1 #[vr t0, vi 0, vi 2, .unset, .unset, .unset] [(.int 2)])) rfl (hb hby L1) rfl (by decide) (cap := 2) (by decide) (by decide) (by decide) (by decide) (ad := "[B") (by decide)
 obtain ⟨b10, g10⟩ : ∃ z, z = h0.size := ⟨_, rfl⟩
 rw [← g10] at A10 st10 Ex10
 have O10 := O0.ext E10
 have g_b10 : n0 ≤ b10 := Nat.le_trans (Nat.le_of_eq O0.1.symm) (Nat.le_trans O0.2.1 (Nat.le_of_eq g10.symm))
 have s_b10 : h0.size ≤ b10 := Nat.le_trans K00.1 (Nat.le_of_eq g10.symm)
 have K10 := K00.ext E10
 have V10 : Arv Z h10 b10 c10 .byte (2 : Int32) [(.int 0), (.int 0)] (.int 0) := (Arv.new A10 (by decide)).pad (pad_rep [] (.int 0) 2)
 have lt_b10 := V10.lt
 have ne11 : ¬ (t0 = b10) := (Nat.ne_of_lt (Nat.lt_of_lt_of_le P0.lt (Nat.le_of_eq g10.symm)))
 have f12 := (P0.ext E10)
 obtain ⟨v13, T13, Lc13, X13, hQ13, st13⟩ := Ub X10 hx hZ hown (Z5a l Z a0 hw [] t0 b10 k0 c10 c0 c1 _ _ _ _ _ _ _ _ _ h10 n0 O10 hE f12 V10 g_b10 ne11 l0 l1) (Ba hw 168 rfl) (Ba hw 169 rfl) (Ba hw 87 rfl) (Ba hw 170 rfl) e10 (g := (mkF m 9 #[vr t0, vi 0, vi 2, vr b10, .unset, .unset] [(.int 2), (.int 0), (.ref b10), (.int 0), (.ref t0)])) rfl (by rw [hml]; rfl) (argsL := [(.ref t0), (.int 0), (.ref b10), (.int 0), (.int 2)]) (rest := []) rfl (lenOf Zka rfl) rfl (W := 0) (by show 2 * 0 + _ ≤ _; exact Nat.le_of_eq rfl) (hb hby Z1) (by decide) (by decide) (by decide) (by decide) (by decide)
 obtain ⟨rfl, N13q, O13, Kc13, F13_0⟩ := hQ13
 have N13 := Fr.app N00 N13q
 have K13 := K10.trans Kc13 (allS (Or.inr s_b10) all0)
 have k14 : Ab p e below m s₁ #[(.ref t0), (.int 0), (.int 2)] 6 T13 58 #[vr t0, vi 0, vi 2, vr b10, vi 2, .unset] [(.ref b10)] := by
  intro t k
  refine k00 t ?_
  refine Pa X00 hx hby K1 rfl ?_
  refine st10 _ ?_
  refine XS.astoreN X10.here hx rfl (hb hby M1) rfl rfl (l' := #[vr t0, vi 0, vi 2, vr b10, .unset, .unset]) rfl ?_
  refine Va X10 hx hby R1 rfl rfl ?_
  refine Pa X10 hx hby U1 rfl ?_
  refine Va X10 hx hby V1 rfl rfl ?_
  refine XS.iconst X10.here hx rfl (hb hby W1) ?_
  refine Pa X10 hx hby Y1 rfl ?_
  refine st13 _ ?_
  refine XS.istore X13.here hx rfl (hb hby Hx) rfl (l' := #[vr t0, vi 0, vi 2, vr b10, vi 2, .unset]) rfl ?_
  refine Wa X13 hx hby Ix rfl ?_
  refine Pa X13 hx hby Kx rfl ?_
  show Za p e below m T13 17 #[vr t0, vi 0, vi 2, vr b10, vi 2, .unset] [(.int 2), (.int 2)] t
  refine XS.icmpYes X13.here hx rfl (pc0 := 17) (pc' := 57) rfl (hb hby Lx) rfl (teq (by decide : (2 : Int32) = (2 : Int32))).1 (by decide) (by decide) ?_
  refine Va X13 hx hby Ala rfl rfl ?_
  exact k
 exact Zb (.ref b10) hNG hlk hret X13 rfl (by decide) (by decide) (fun fs hr => k14 _ (retOut X13 hx (t := (.array .byte)) hret rfl (Or.inr (Or.inr (Or.inr (Or.inr ⟨rfl, rfl, rfl⟩)))) (hb hby Bla) hr)) ⟨b10, c10, rfl, N13, O13, K13, g_b10, s_b10, F13_0⟩
theorem Pwa (m : MethodId) (x0 : Addr) (x1 : Int32)  : entryFrame m #[(.ref x0), (.int x1)] 2 = mkF m 0 #[.val (.ref x0), .val (.int x1)] [] := by first | (simp [entryFrame, mkF, argsToLocals, Value.category]; done) | rfl
abbrev Mg : ByteArray := jdk_52_method_15_code
theorem A2 : decode Mg 0 = .ok (.iload_n 1, 1) := by decide +kernel
theorem B2 : decode Mg 1 = .ok (.aload_n 0, 1) := by decide +kernel
theorem D2 : decode Mg 2 = .ok (.arraylength, 1) := by decide +kernel
theorem G2 : decode Mg 3 = .ok (.isub, 1) := by decide +kernel
theorem G8a : ((2 : Int32) - (2 : Int32)) = (0 : Int32) := by decide
theorem H2 : decode Mg 4 = .ok (.bipush 31, 2) := by decide +kernel
theorem I2 : decode Mg 6 = .ok (.iushr, 1) := by decide +kernel
theorem H8a : (((0 : Int32).toUInt32 >>> ((31 : Int32) &&& 31).toUInt32).toInt32) = (0 : Int32) := by decide
theorem K2 : decode Mg 7 = .ok (.i2b, 1) := by decide +kernel
theorem I8a : ((0 : Int32).toInt8.toInt32) = (0 : Int32) := by decide
theorem L2 : decode Mg 8 = .ok (.ireturn, 1) := by decide +kernel
abbrev Rwa : MethodName := ⟨"java/lang/StringUTF16", "coderFromArrayLen", "([BI)B"⟩
theorem B6a (l : Launch) (Z : State) (a0 : Array Value) (hw : Pb a0 Z) (ws : List Jvm.Cond) (q0 : Addr) (k0 : ClassId) (x0 x1 : Int32) (Ra Ya Ia Ua Ka Ga Ma : Addr) (Da : Int32) (Aa : Value) (h0 : Heap) (n0 : Nat) (O0 : Old Z n0 h0) (hE : EV Z Ra Ya Ia Ua Ka Ga Ma Da Aa) (P0 : Arv Z h0 q0 k0 .byte (2 : Int32) [(.int x0), (.int x1)] (.int 0)) :
   Ib l Rwa (Jvm.Cond.code Rwa jdk_52_method_15_code 2 (some .byte) :: ws) (Hb 0 0 0 0) #[(.ref q0), (.int 2)] Z h0 (fun v h L => v = some (.int 0) ∧ Fr n0 L ∧ h = h0) := by
 refine Db (plainFor_of_name Bb) n0 [] fun p e s m below meth c s₁ hx hby hml hown hnm hret hlk X00 e00 hZ N00 K00 hNG => ?_
 have k00 : Ab p e below m s₁ #[(.ref q0), (.int 2)] 2 s₁ 0 #[vr q0, vi 2] [] := fun t k => castTop (Pwa m q0 (2 : Int32) ) k
 obtain ⟨cl10, Ar10, q10, Sz10, Nn10, Hs10, Gf10⟩ := id P0
 have k11 : Ab p e below m s₁ #[(.ref q0), (.int 2)] 2 s₁ 8 #[vr q0, vi 2] [(.int 0)] := by
  intro t k
  refine k00 t ?_
  refine Pa X00 hx hby A2 rfl ?_
  refine Va X00 hx hby B2 rfl rfl ?_
  refine X00.arraylength hx (by rw [e00]; exact Ar10.1) (State.isArrayOf_alike hZ.alike Ar10.2.1) (g := (mkF m 2 #[vr q0, vi 2] [(.ref q0), (.int 2)])) rfl rfl (hb hby D2) _ ?_
  rw [len_of Sz10 Nn10]
  refine XS.isub X00.here hx rfl (hb hby G2) rfl ?_
  show Za p e below m s₁ 4 #[vr q0, vi 2] [(.int ((2 : Int32) - (2 : Int32)))] t
  rw [G8a]
  refine XS.bipush X00.here hx rfl (hb hby H2) ?_
  refine XS.iushr X00.here hx rfl (hb hby I2) rfl ?_
  show Za p e below m s₁ 7 #[vr q0, vi 2] [(.int (((0 : Int32).toUInt32 >>> ((31 : Int32) &&& 31).toUInt32).toInt32))] t
  rw [H8a]
  refine XS.i2b X00.here hx rfl (hb hby K2) rfl ?_
  show Za p e below m s₁ 8 #[vr q0, vi 2] [(.int ((0 : Int32).toInt8.toInt32))] t
  rw [I8a]
  exact k
 exact Zb (.int 0) hNG hlk hret X00 e00 (by decide) (by decide) (fun fs hr => k11 _ (retN X00 hx (t := .byte) hret (by simp) (hb hby L2) (by first | exact hr | (rw [show nar .byte (0 : Int32) = (0 : Int32) from by first | rfl | exact I6 _ | decide]; exact hr)))) ⟨rfl, N00, rfl⟩
theorem Bxa (m : MethodId) (x0 : Addr) (x1 : Addr) (x2 : Int32) (x3 : Int32)  : entryFrame m #[(.ref x0), (.ref x1), (.int x2), (.int x3), .null] 6 = mkF m 0 #[.val (.ref x0), .val (.ref x1), .val (.int x2), .val (.int x3), .val .null, .unset] [] := by first | (simp [entryFrame, mkF, argsToLocals, Value.category]; done) | rfl
abbrev Bc : ByteArray := jdk_42_method_149_code
theorem Mx : decode Bc 0 = .ok (.aload_n 0, 1) := by decide +kernel
theorem Px : decode Bc 1 = .ok (.invokespecial 1, 3) := by decide +kernel
theorem Rx : decode Bc 4 = .ok (.iload_n 3, 1) := by decide +kernel
theorem Ux : decode Bc 5 = .ok (.ifCond .ne 22, 3) := by decide +kernel
theorem Pv : decode Bc 27 = .ok (.getstatic 38, 3) := by decide +kernel
theorem Rv : decode Bc 30 = .ok (.ifCond .eq 28, 3) := by decide +kernel
theorem Uv : decode Bc 33 = .ok (.aload_n 1, 1) := by decide +kernel
theorem Vv : decode Bc 34 = .ok (.iload_n 2, 1) := by decide +kernel
theorem Wv : decode Bc 35 = .ok (.iload_n 3, 1) := by decide +kernel
theorem Yv : decode Bc 36 = .ok (.invokestatic 177, 3) := by decide +kernel
theorem Gba : parseMethodDescriptor "([CII)[B" = some ⟨[(.array .char), .int, .int], some (.array .byte)⟩ := by decide +kernel
theorem Zv : decode Bc 39 = .ok (.astore 5, 2) := by decide +kernel
theorem Aw : decode Bc 41 = .ok (.aload_n 0, 1) := by decide +kernel
theorem Bw : decode Bc 42 = .ok (.aload 5, 2) := by decide +kernel
theorem Dw : decode Bc 44 = .ok (.iload_n 3, 1) := by decide +kernel
theorem Gw : decode Bc 45 = .ok (.invokestatic 47, 3) := by decide +kernel
theorem Vxa : parseMethodDescriptor "([BI)B" = some ⟨[(.array .byte), .int], some .byte⟩ := by decide +kernel
theorem Hw : decode Bc 48 = .ok (.putfield 15, 3) := by decide +kernel
theorem Iw : decode Bc 51 = .ok (.aload_n 0, 1) := by decide +kernel
theorem Kw : decode Bc 52 = .ok (.aload 5, 2) := by decide +kernel
theorem Lw : decode Bc 54 = .ok (.putfield 9, 3) := by decide +kernel
theorem Mw : decode Bc 57 = .ok (.return_, 1) := by decide +kernel
theorem Mb : plainName "java/lang/String" = true := by first | (simp [plainName, overriddenIn]; done) | decide +kernel
abbrev Uwa : MethodName := ⟨"java/lang/String", "<init>", "([CIILjava/lang/Void;)V"⟩
theorem D6a (l : Launch) (Z : State) (a0 : Array Value) (hw : Pb a0 Z) (ws : List Jvm.Cond) (a1 t0 : Addr) (k0 : ClassId) (c0 c1 : Int32) (Ra Ya Ia Ua Ka Ga Ma : Addr) (Da : Int32) (Aa : Value) (h0 : Heap) (n0 : Nat) (O0 : Old Z n0 h0) (hE : EV Z Ra Ya Ia Ua Ka Ga Ma Da Aa) (P0 : Arv Z h0 t0 k0 .char (2 : Int32) [(.int c0), (.int c1)] (.int 0)) (P1 : Exa Z h0 a1 "java/lang/String") (P2 : Fld Z h0 a1 "java/lang/String" "value" "[B" .null) (P3 : Fld Z h0 a1 "java/lang/String" "coder" "B" (.int 0)) (g_a1 : n0 ≤ a1) (na : ¬ (t0 = a1)) (l0 : ¬ ((255 : Int32) < c0)) (l1 : ¬ ((255 : Int32) < c1)) :
   Ib l Uwa (Jvm.Cond.code Uwa jdk_42_method_149_code 6 none :: ws) (Hb 2 1 2 35) #[(.ref a1), (.ref t0), (.int 0), (.int 2), .null] Z h0 (fun v h L => ∃ (b : Addr) (k : ClassId), v = none ∧ Fr n0 L ∧ Old Z n0 h ∧ Keep h0 h [a1] ∧ n0 ≤ b ∧ h0.size ≤ b ∧ Exa Z h a1 "java/lang/String" ∧ Fld Z h a1 "java/lang/String" "coder" "B" (.int 0) ∧ Fld Z h a1 "java/lang/String" "value" "[B" (.ref b) ∧ Arv Z h b k .byte (2 : Int32) [(.int (c0.toInt8.toInt32)), (.int (c1.toInt8.toInt32))] (.int 0)) := by
 refine Db (plainFor_of_name Mb) n0 [a1] fun p e s m below meth c s₁ hx hby hml hown hnm hret hlk X00 e00 hZ N00 K00 hNG => ?_
 have k00 : Ab p e below m s₁ #[(.ref a1), (.ref t0), (.int 0), (.int 2), .null] 6 s₁ 0 #[vr a1, vr t0, vi 0, vi 2, .val .null, .unset] [] := fun t k => castTop (Bxa m a1 t0 (0 : Int32) (2 : Int32) ) k
 obtain ⟨_, _, _, _, _, _, _, _, _, _, _, _, _, _, Vc, Mc, _⟩ := id hE
 obtain ⟨T10, X10, e10, st10⟩ := initO X00 hx hZ hown (Ba hw 64 rfl) (Ba hw 26 rfl) (Ba hw 27 rfl) e00 (g := (mkF m 1 #[vr a1, vr t0, vi 0, vi 2, .val .null, .unset] [(.ref a1)])) rfl (by rw [hml]; rfl) rfl (hb hby Px) (by decide) (W := 0) (by show 2 * 0 + _ ≤ _; exact Nat.le_of_eq rfl) (by decide)
 obtain ⟨T11, X11, e11, st11⟩ := getS2 X10 hx hZ hown (host := "") (Or.inl (Ba hw 67 rfl)) Via.refl e10 (Vc.ext O0.2) (g := (mkF m 27 #[vr a1, vr t0, vi 0, vi 2, .val .null, .unset] [])) rfl (hb hby Pv)
 obtain ⟨v12, T12, Lc12, X12, hQ12, st12⟩ := Ub X11 hx hZ hown (A6a l Z a0 hw [] t0 k0 c0 c1 _ _ _ _ _ _ _ _ _ h0 n0 O0 hE P0 l0 l1) (Ba hw 165 rfl) (Ba hw 166 rfl) (Ba hw 87 rfl) (Ba hw 167 rfl) e11 (g := (mkF m 36 #[vr a1, vr t0, vi 0, vi 2, .val .null, .unset] [(.int 2), (.int 0), (.ref t0)])) rfl (by rw [hml]; rfl) (argsL := [(.ref t0), (.int 0), (.int 2)]) (rest := []) rfl (lenOf Gba rfl) rfl (W := 0) (by show 2 * 0 + _ ≤ _; exact Nat.le_of_eq rfl) (hb hby Yv) (by decide) (by decide) (by decide) (by decide) (by decide)
 obtain ⟨b12, k12, rfl, N12q, O12, Kc12, g_b12, gs_b12, F12_0⟩ := hQ12
 have N12 := Fr.app N00 N12q
 have K12 := K00.trans Kc12 (fun x hx => nomatch hx)
 have s_b12 := Nat.le_trans K00.1 gs_b12
 have lt_b12 := F12_0.lt
 obtain ⟨v13, T13, Lc13, X13, hQ13, st13⟩ := Ub X12 hx hZ hown (B6a l Z a0 hw [] b12 k12 (c0.toInt8.toInt32) (c1.toInt8.toInt32) _ _ _ _ _ _ _ _ _ T12.heap n0 O12 hE F12_0 ) (Ba hw 178 rfl) (Ba hw 179 rfl) (Ba hw 87 rfl) (Ba hw 180 rfl) rfl (g := (mkF m 45 #[vr a1, vr t0, vi 0, vi 2, .val .null, vr b12] [(.int 2), (.ref b12), (.ref a1)])) rfl (by rw [hml]; rfl) (argsL := [(.ref b12), (.int 2)]) (rest := [(.ref a1)]) rfl (lenOf Vxa rfl) rfl (W := 1) (by show 2 * 0 + _ ≤ _; exact Nat.le_of_eq rfl) (hb hby Gw) (by decide) (by decide) (by decide) (by decide) (by decide)
 obtain ⟨rfl, N13q, hp13⟩ := hQ13
 have N13 := Fr.app N12 N13q
 have f14 := (P1.keep Kc12)
 have f15 := (P3.keep Kc12 List.not_mem_nil)
 obtain ⟨T16, h16, X16, e16, W16, st16⟩ := putFN X13 hx hZ hown (Ba hw 157 rfl) Via.refl hp13 f15 f14 (Or.inr ⟨(Ba hw 32 rfl), rfl, hnm⟩) (Ba hw 30 rfl) (ty := .byte) (v' := .int (0 : Int32)) (by decide) rfl (by decide) (g := (mkF m 48 #[vr a1, vr t0, vi 0, vi 2, .val .null, vr b12] [(.int 0), (.ref a1)])) rfl rfl (hb hby Hw)
 have F16_coder := f15.same W16
 have N16 := Fr.snoc X16 N13 g_a1
 have O16 := O12.wr W16 g_a1
 have K16 := K12.wr W16 (Or.inl (List.mem_of_getElem? (i := 0) rfl))
 have f17 := (f14.wr W16)
 have f18 := ((P2.keep Kc12 List.not_mem_nil).other W16 (Or.inr (slot_ne (Or.inr (Ba hw 31 rfl)) (Or.inr (Ba hw 32 rfl)) (by decide) (t := (.array .byte)) (t' := .byte) (by decide) (by decide))))
 obtain ⟨T19, h19, X19, e19, W19, st19⟩ := putF X16 hx hZ hown (host := "") (Or.inl (Ba hw 156 rfl)) Via.refl e16 f18 f17 (Or.inr ⟨(Ba hw 31 rfl), rfl, hnm⟩) (Ba hw 30 rfl) (ty := (.array .byte)) (by decide) rfl rfl (g := (mkF m 54 #[vr a1, vr t0, vi 0, vi 2, .val .null, vr b12] [(.ref b12), (.ref a1)])) rfl rfl (hb hby Lw)
 have F19_value := f18.same W19
 have N19 := Fr.snoc X19 N16 g_a1
 have O19 := O16.wr W19 g_a1
 have K19 := K16.wr W19 (Or.inl (List.mem_of_getElem? (i := 0) rfl))
 have k20 : Ab p e below m s₁ #[(.ref a1), (.ref t0), (.int 0), (.int 2), .null] 6 T19 57 #[vr a1, vr t0, vi 0, vi 2, .val .null, vr b12] [] := by
  intro t k
  refine k00 t ?_
  refine Va X00 hx hby Mx rfl rfl ?_
  refine st10 _ ?_
  refine Pa X10 hx hby Rx rfl ?_
  refine XS.ifYes X10.here hx rfl (pc0 := 5) (pc' := 27) rfl (hb hby Ux) rfl ((if0 _ _).trans (feq (by decide : ¬ ((2 : Int32) = (0 : Int32)))).2) (by decide) (by decide) ?_
  refine st11 _ ?_
  refine XS.ifNo X11.here hx rfl (hb hby Rv) rfl ((if0 _ _).trans (feq Mc).1) ?_
  refine Va X11 hx hby Uv rfl rfl ?_
  refine Pa X11 hx hby Vv rfl ?_
  refine Pa X11 hx hby Wv rfl ?_
  refine st12 _ ?_
  refine XS.astore X12.here hx rfl (hb hby Zv) rfl rfl (l' := #[vr a1, vr t0, vi 0, vi 2, .val .null, vr b12]) rfl ?_
  refine Va X12 hx hby Aw rfl rfl ?_
  show Za p e below m T12 42 #[vr a1, vr t0, vi 0, vi 2, .val .null, vr b12] [(.ref a1)] t
  refine Dd X12 hx hby Bw rfl rfl ?_
  refine Pa X12 hx hby Dw rfl ?_
  refine st13 _ ?_
  refine st16 _ ?_
  refine Va X16 hx hby Iw rfl rfl ?_
  refine Dd X16 hx hby Kw rfl rfl ?_
  refine st19 _ ?_
  exact k
 have f21 := (f17.wr W19)
 have f22 := (F16_coder.other W19 (Or.inr (slot_ne (Or.inr (Ba hw 32 rfl)) (Or.inr (Ba hw 31 rfl)) (by decide) (t := .byte) (t' := (.array .byte)) (by decide) (by decide))))
 have ne23 : ¬ (b12 = a1) := (Ne.symm (Nat.ne_of_lt (Nat.lt_of_lt_of_le P1.lt gs_b12)))
 have f24 := ((F12_0.other W16 ne23).other W19 ne23)
 exact Yg hNG hlk X19 e19 (by decide) (by decide) (fun fs hr => k20 _ (X19.returnOut hx hret (hb hby Mw) hr)) ⟨b12, k12, rfl, N19, O19, K19, g_b12, s_b12, f21, f22, F19_value, f24⟩
theorem Hza (m : MethodId) (x0 : Addr) (x1 : Addr)  : entryFrame m #[(.ref x0), (.ref x1)] 2 = mkF m 0 #[.val (.ref x0), .val (.ref x1)] [] := by first | (simp [entryFrame, mkF, argsToLocals, Value.category]; done) | rfl
abbrev Zg : ByteArray := jdk_42_method_3_code
theorem I5 : decode Zg 0 = .ok (.aload_n 0, 1) := by decide +kernel
theorem K5 : decode Zg 1 = .ok (.aload_n 1, 1) := by decide +kernel
theorem L5 : decode Zg 2 = .ok (.iconst 0, 1) := by decide +kernel
theorem M5 : decode Zg 3 = .ok (.aload_n 1, 1) := by decide +kernel
theorem R5 : decode Zg 4 = .ok (.arraylength, 1) := by decide +kernel
theorem U5 : decode Zg 5 = .ok (.aconst_null, 1) := by decide +kernel
theorem V5 : decode Zg 6 = .ok (.invokespecial 27, 3) := by decide +kernel
theorem Vx : parseMethodDescriptor "([CIILjava/lang/Void;)V" = some ⟨[(.array .char), .int, .int, (.object "java/lang/Void")], none⟩ := by decide +kernel
theorem W5 : decode Zg 9 = .ok (.return_, 1) := by decide +kernel
abbrev Vwa : MethodName := ⟨"java/lang/String", "<init>", "([C)V"⟩
theorem W1a (l : Launch) (Z : State) (a0 : Array Value) (hw : Pb a0 Z) (ws : List Jvm.Cond) (a1 t0 : Addr) (k0 : ClassId) (c0 c1 : Int32) (Ra Ya Ia Ua Ka Ga Ma : Addr) (Da : Int32) (Aa : Value) (h0 : Heap) (n0 : Nat) (O0 : Old Z n0 h0) (hE : EV Z Ra Ya Ia Ua Ka Ga Ma Da Aa) (P0 : Arv Z h0 t0 k0 .char (2 : Int32) [(.int c0), (.int c1)] (.int 0)) (P1 : Exa Z h0 a1 "java/lang/String") (P2 : Fld Z h0 a1 "java/lang/String" "value" "[B" .null) (P3 : Fld Z h0 a1 "java/lang/String" "coder" "B" (.int 0)) (g_a1 : n0 ≤ a1) (na : ¬ (t0 = a1)) (l0 : ¬ ((255 : Int32) < c0)) (l1 : ¬ ((255 : Int32) < c1)) :
   Ib l Vwa (Jvm.Cond.code Vwa jdk_42_method_3_code 2 none :: ws) (Hb 3 1 2 52) #[(.ref a1), (.ref t0)] Z h0 (fun v h L => ∃ (b : Addr) (k : ClassId), v = none ∧ Fr n0 L ∧ Old Z n0 h ∧ Keep h0 h [a1] ∧ n0 ≤ b ∧ h0.size ≤ b ∧ Exa Z h a1 "java/lang/String" ∧ Fld Z h a1 "java/lang/String" "coder" "B" (.int 0) ∧ Fld Z h a1 "java/lang/String" "value" "[B" (.ref b) ∧ Arv Z h b k .byte (2 : Int32) [(.int (c0.toInt8.toInt32)), (.int (c1.toInt8.toInt32))] (.int 0)) := by
 refine Db (plainFor_of_name Mb) n0 [a1] fun p e s m below meth c s₁ hx hby hml hown hnm hret hlk X00 e00 hZ N00 K00 hNG => ?_
 have k00 : Ab p e below m s₁ #[(.ref a1), (.ref t0)] 2 s₁ 0 #[vr a1, vr t0] [] := fun t k => castTop (Hza m a1 t0 ) k
 obtain ⟨cl10, Ar10, q10, Sz10, Nn10, Hs10, Gf10⟩ := id P0
 obtain ⟨v11, T11, Lc11, X11, hQ11, st11⟩ := G1 X00 hx hZ hown (a := a1) (D6a l Z a0 hw [] a1 t0 k0 c0 c1 _ _ _ _ _ _ _ _ _ h0 n0 O0 hE P0 P1 P2 P3 g_a1 na l0 l1) (Ba hw 162 rfl) (Ba hw 163 rfl) (Ba hw 29 rfl) (Ba hw 164 rfl) e00 (g := (mkF m 6 #[vr a1, vr t0] [.null, (.int 2), (.int 0), (.ref t0), (.ref a1)])) rfl (by rw [hml]; rfl) (argsL := [(.ref t0), (.int 0), (.int 2), .null]) (rest := []) rfl (lenOf Vx rfl) rfl (W := 0) (by show 2 * 0 + _ ≤ _; exact Nat.le_of_eq rfl) (hb hby V5) (by decide) (by decide) (by decide) (by decide) rfl (by decide)
 obtain ⟨b11, k11, rfl, N11q, O11, Kc11, g_b11, gs_b11, F11_0, F11_1, F11_2, F11_3⟩ := hQ11
 have N11 := Fr.app N00 N11q
 have K11 := K00.trans Kc11 (allS (Or.inl (List.mem_of_getElem? (i := 0) rfl)) all0)
 have s_b11 := Nat.le_trans K00.1 gs_b11
 have lt_b11 := F11_3.lt
 have k12 : Ab p e below m s₁ #[(.ref a1), (.ref t0)] 2 T11 9 #[vr a1, vr t0] [] := by
  intro t k
  refine k00 t ?_
  refine Va X00 hx hby I5 rfl rfl ?_
  refine Va X00 hx hby K5 rfl rfl ?_
  refine XS.iconst X00.here hx rfl (hb hby L5) ?_
  refine Va X00 hx hby M5 rfl rfl ?_
  refine X00.arraylength hx (by rw [e00]; exact Ar10.1) (State.isArrayOf_alike hZ.alike Ar10.2.1) (g := (mkF m 4 #[vr a1, vr t0] [(.ref t0), (.int 0), (.ref t0), (.ref a1)])) rfl rfl (hb hby R5) _ ?_
  rw [len_of Sz10 Nn10]
  refine XS.aconstNull X00.here hx rfl (hb hby U5) ?_
  refine st11 _ ?_
  exact k
 exact Yg hNG hlk X11 rfl (by decide) (by decide) (fun fs hr => k12 _ (X11.returnOut hx hret (hb hby W5) hr)) ⟨b11, k11, rfl, N11, O11, K11, g_b11, s_b11, F11_0, F11_1, F11_2, F11_3⟩
theorem A7 : decode Kb 23 = .ok (.iload 5, 2) := by decide +kernel
theorem B7 : decode Kb 25 = .ok (.ireturn, 1) := by decide +kernel
theorem G6a (l : Launch) (Z : State) (a0 : Array Value) (hw : Pb a0 Z) (ws : List Jvm.Cond) (t0 t1 : Addr) (k0 k1 : ClassId) (c0 c1 : Int32) (Ra Ya Ia Ua Ka Ga Ma : Addr) (Da : Int32) (Aa : Value) (h0 : Heap) (n0 : Nat) (O0 : Old Z n0 h0) (hE : EV Z Ra Ya Ia Ua Ka Ga Ma Da Aa) (P0 : Arv Z h0 t0 k0 .char (2 : Int32) [(.int c0), (.int c1)] (.int 0)) (P1 : Arv Z h0 t1 k1 .byte (2 : Int32) [(.int 0), (.int 0)] (.int 0)) (g_t1 : n0 ≤ t1) (nt : ¬ (t0 = t1)) (l0 : ¬ ((255 : Int32) < c0)) (g1 : (255 : Int32) < c1) (lo0 : ¬ c0 < 0) (hi0 : ¬ (65535 : Int32) < c0) (lo1 : ¬ c1 < 0) (hi1 : ¬ (65535 : Int32) < c1) :
   Ib l Lwa (Jvm.Cond.code Lwa jdk_52_method_21_code 7 (some .int) :: ws) (Hb 0 0 0 0) #[(.ref t0), (.int 0), (.ref t1), (.int 0), (.int 2)] Z h0 (fun v h L => v = some (.int 1) ∧ Fr n0 L ∧ Old Z n0 h ∧ Keep h0 h [t1] ∧ Arv Z h t1 k1 .byte (2 : Int32) [(.int (c0.toInt8.toInt32)), (.int 0)] (.int 0)) := by
 refine Db (plainFor_of_name Bb) n0 [t1] fun p e s m below meth c s₁ hx hby hml hown hnm hret hlk X00 e00 hZ N00 K00 hNG => ?_
 have k00 : Ab p e below m s₁ #[(.ref t0), (.int 0), (.ref t1), (.int 0), (.int 2)] 7 s₁ 0 #[vr t0, vi 0, vr t1, vi 0, vi 2, .unset, .unset] [] := fun t k => castTop (Axa m t0 (0 : Int32) t1 (0 : Int32) (2 : Int32) ) k
 obtain ⟨cl10, Ar10, q10, Sz10, Nn10, Hs10, Gf10⟩ := id P0
 have hin11 := inb_of (j := 0) Sz10 ⟨by decide, by decide⟩
 have hat12 : cl10.slots[((0 : Int32)).toNatClampNeg]? = some (.int c0) := Hs10.at hin11 rfl
 obtain ⟨cl13, Ar13, q13, Sz13, Nn13, Hs13, Gf13⟩ := id P1
 have hin14 := inb_of (j := 0) Sz13 ⟨by decide, by decide⟩
 obtain ⟨T15, h15, X15, e15, W15, st15⟩ := stB X00 hx hZ e00 Ar13 (j := 0) hin14 (g := (mkF m 31 #[vr t0, vi 0, vr t1, vi 0, vi 2, vi 0, vi c0] [(.int (c0.toInt8.toInt32)), (.int 0), (.ref t1)])) rfl rfl (hb hby Ds)
 have V15 : Arv Z h15 t1 k1 .byte (2 : Int32) [(.int (c0.toInt8.toInt32)), (.int 0)] (.int 0) := by
   have q := Arv.set Ar13 q13 Sz13 Nn13 Hs13 Gf13 (fits_nar_byte _) W15 0 rfl (Nat.le_of_ble_eq_true rfl)
   first | exact q | (simp only [Bl, Pd] at q; exact q)
 have N15 := Fr.snoc X15 N00 g_t1
 have O15 := O0.wr W15 g_t1
 have K15 := K00.wr W15 (Or.inl (List.mem_of_getElem? (i := 0) rfl))
 have f16 := (P0.other W15 nt)
 obtain ⟨cl17, Ar17, q17, Sz17, Nn17, Hs17, Gf17⟩ := id f16
 have hin18 := inb_of (j := 1) Sz17 ⟨by decide, by decide⟩
 have hat19 : cl17.slots[((1 : Int32)).toNatClampNeg]? = some (.int c1) := Hs17.at hin18 rfl
 have k20 : Ab p e below m s₁ #[(.ref t0), (.int 0), (.ref t1), (.int 0), (.int 2)] 7 T15 25 #[vr t0, vi 1, vr t1, vi 1, vi 2, vi 1, vi c1] [(.int 1)] := by
  intro t k
  refine k00 t ?_
  refine XS.iconst X00.here hx rfl (hb hby H1) ?_
  refine XS.istore X00.here hx rfl (hb hby I1) rfl (l' := #[vr t0, vi 0, vr t1, vi 0, vi 2, vi 0, .unset]) rfl ?_
  refine Wa X00 hx hby Ph rfl ?_
  refine Wa X00 hx hby Rh rfl ?_
  refine XS.icmpNo X00.here hx rfl (hb hby Uh) rfl (tlt (by decide : (0 : Int32) < (2 : Int32))).2.1 ?_
  refine Va X00 hx hby Bi rfl rfl ?_
  refine Pa X00 hx hby Di rfl ?_
  refine X00.caload hx (j := 0) (v := (.int c0)) (by rw [e00]; exact Ar10.1) (State.isArrayOf_alike hZ.alike Ar10.2.1) Ar10.2.2 hin11 hat12 (g := (mkF m 12 #[vr t0, vi 0, vr t1, vi 0, vi 2, vi 0, .unset] [(.int 0), (.ref t0)])) rfl rfl (hb hby Gi) _ ?_
  refine XS.istore X00.here hx rfl (hb hby Hi) rfl (l' := #[vr t0, vi 0, vr t1, vi 0, vi 2, vi 0, vi c0]) rfl ?_
  refine Wa X00 hx hby Ii rfl ?_
  refine XS.sipush X00.here hx rfl (hb hby Ki) ?_
  refine XS.icmpYes X00.here hx rfl (pc0 := 20) (pc' := 26) rfl (hb hby Li) rfl (flt l0).2.2.2 (by decide) (by decide) ?_
  show Za p e below m s₁ 26 #[vr t0, vi 0, vr t1, vi 0, vi 2, vi 0, vi c0] [] t
  refine Va X00 hx hby Yr rfl rfl ?_
  refine Pa X00 hx hby Zr rfl ?_
  refine Wa X00 hx hby As rfl ?_
  refine XS.i2b X00.here hx rfl (hb hby Bs) rfl ?_
  refine st15 _ ?_
  refine XS.iinc X15.here hx rfl (hb hby Gs) rfl (l' := #[vr t0, vi ((0 : Int32) + (1 : Int32)), vr t1, vi 0, vi 2, vi 0, vi c0]) rfl ?_
  rw [Mh]
  refine XS.iinc X15.here hx rfl (hb hby Hs) rfl (l' := #[vr t0, vi 1, vr t1, vi ((0 : Int32) + (1 : Int32)), vi 2, vi 0, vi c0]) rfl ?_
  rw [Mh]
  refine XS.iinc X15.here hx rfl (hb hby Is) rfl (l' := #[vr t0, vi 1, vr t1, vi 1, vi 2, vi ((0 : Int32) + (1 : Int32)), vi c0]) rfl ?_
  rw [Mh]
  refine XS.goto X15.here hx rfl (pc0 := 41) (pc' := 3) rfl (hb hby Ks) (by decide) (by decide) ?_
  refine Wa X15 hx hby Ph rfl ?_
  refine Wa X15 hx hby Rh rfl ?_
  refine XS.icmpNo X15.here hx rfl (hb hby Uh) rfl (tlt (by decide : (1 : Int32) < (2 : Int32))).2.1 ?_
  show Za p e below m T15 10 #[vr t0, vi 1, vr t1, vi 1, vi 2, vi 1, vi c0] [] t
  refine Va X15 hx hby Bi rfl rfl ?_
  refine Pa X15 hx hby Di rfl ?_
  refine X15.caload hx (j := 1) (v := (.int c1)) (by rw [e15]; exact Ar17.1) (State.isArrayOf_alike hZ.alike Ar17.2.1) Ar17.2.2 hin18 hat19 (g := (mkF m 12 #[vr t0, vi 1, vr t1, vi 1, vi 2, vi 1, vi c0] [(.int 1), (.ref t0)])) rfl rfl (hb hby Gi) _ ?_
  refine XS.istore X15.here hx rfl (hb hby Hi) rfl (l' := #[vr t0, vi 1, vr t1, vi 1, vi 2, vi 1, vi c1]) rfl ?_
  refine Wa X15 hx hby Ii rfl ?_
  refine XS.sipush X15.here hx rfl (hb hby Ki) ?_
  refine XS.icmpNo X15.here hx rfl (hb hby Li) rfl (tlt g1).2.2.2 ?_
  refine Wa X15 hx hby A7 rfl ?_
  exact k
 exact Zb (.int 1) hNG hlk hret X15 e15 (by decide) (by decide) (fun fs hr => k20 _ (retOut X15 hx (t := .int) hret rfl (Or.inl ⟨rfl, Or.inl rfl, _, rfl⟩) (hb hby B7) hr)) ⟨rfl, N15, O15, K15, V15⟩
theorem Zba (m : MethodId) (x0 : Addr) (x1 : Int32) (x2 : Int32)  : entryFrame m #[(.ref x0), (.int x1), (.int x2)] 5 = mkF m 0 #[.val (.ref x0), .val (.int x1), .val (.int x2), .unset, .unset] [] := by first | (simp [entryFrame, mkF, argsToLocals, Value.category]; done) | rfl
abbrev Hc : ByteArray := jdk_52_method_14_code
theorem B9 : decode Hc 0 = .ok (.iload_n 2, 1) := by decide +kernel
theorem D9 : decode Hc 1 = .ok (.invokestatic 107, 3) := by decide +kernel
theorem Aca : parseMethodDescriptor "(I)[B" = some ⟨[.int], some (.array .byte)⟩ := by decide +kernel
theorem G9 : decode Hc 4 = .ok (.astore_n 3, 1) := by decide +kernel
theorem H9 : decode Hc 5 = .ok (.iconst 0, 1) := by decide +kernel
theorem I9 : decode Hc 6 = .ok (.istore 4, 2) := by decide +kernel
theorem Vh : decode Hc 8 = .ok (.iload 4, 2) := by decide +kernel
theorem Bh : decode Hc 10 = .ok (.iload_n 2, 1) := by decide +kernel
theorem Dh : decode Hc 11 = .ok (.if_icmp .ge 21, 3) := by decide +kernel
theorem Im : decode Hc 14 = .ok (.aload_n 3, 1) := by decide +kernel
theorem Km : decode Hc 15 = .ok (.iload 4, 2) := by decide +kernel
theorem Lm : decode Hc 17 = .ok (.aload_n 0, 1) := by decide +kernel
theorem Mm : decode Hc 18 = .ok (.iload_n 1, 1) := by decide +kernel
theorem Pm : decode Hc 19 = .ok (.caload, 1) := by decide +kernel
theorem Rm : decode Hc 20 = .ok (.invokestatic 111, 3) := by decide +kernel
theorem Go : parseMethodDescriptor "([BII)V" = some ⟨[(.array .byte), .int, .int], none⟩ := by decide +kernel
theorem Um : decode Hc 23 = .ok (.iinc 1 1, 3) := by decide +kernel
theorem Wm : decode Hc 26 = .ok (.iinc 4 1, 3) := by decide +kernel
theorem Ym : decode Hc 29 = .ok (.goto (-21), 3) := by decide +kernel
theorem D7 : decode Hc 32 = .ok (.aload_n 3, 1) := by decide +kernel
theorem G7 : decode Hc 33 = .ok (.areturn, 1) := by decide +kernel
abbrev V0a : MethodName := ⟨"java/lang/StringUTF16", "toBytes", "([CII)[B"⟩
theorem H6a (l : Launch) (Z : State) (a0 : Array Value) (hw : Pb a0 Z) (ws : List Jvm.Cond) (t0 : Addr) (k0 : ClassId) (c0 c1 : Int32) (Ra Ya Ia Ua Ka Ga Ma : Addr) (Da : Int32) (Aa : Value) (h0 : Heap) (n0 : Nat) (O0 : Old Z n0 h0) (hE : EV Z Ra Ya Ia Ua Ka Ga Ma Da Aa) (P0 : Arv Z h0 t0 k0 .char (2 : Int32) [(.int c0), (.int c1)] (.int 0)) :
   Ib l V0a (Jvm.Cond.code V0a jdk_52_method_14_code 5 (some (.array .byte)) :: ws) (Hb 2 1 4 24) #[(.ref t0), (.int 0), (.int 2)] Z h0 (fun v h L => ∃ (b : Addr) (k : ClassId), v = some (.ref b) ∧ Fr n0 L ∧ Old Z n0 h ∧ Keep h0 h [] ∧ n0 ≤ b ∧ h0.size ≤ b ∧ Arv Z h b k .byte (4 : Int32) [(.int ((c0 >>> ((0 : Int32) &&& 31)).toInt8.toInt32)), (.int ((c0 >>> ((8 : Int32) &&& 31)).toInt8.toInt32)), (.int ((c1 >>> ((0 : Int32) &&& 31)).toInt8.toInt32)), (.int ((c1 >>> ((8 : Int32) &&& 31)).toInt8.toInt32))] (.int 0)) := by
 refine Db (plainFor_of_name Bb) n0 [] fun p e s m below meth c s₁ hx hby hml hown hnm hret hlk X00 e00 hZ N00 K00 hNG => ?_
 have k00 : Ab p e below m s₁ #[(.ref t0), (.int 0), (.int 2)] 5 s₁ 0 #[vr t0, vi 0, vi 2, .unset, .unset] [] := fun t k => castTop (Zba m t0 (0 : Int32) (2 : Int32) ) k
 obtain ⟨v10, T10, Lc10, X10, hQ10, st10⟩ := Ub X00 hx hZ hown (rm_nb2 l Z a0 hw []  _ _ _ _ _ _ _ _ _ h0 n0 O0 hE  ) (Ba hw 174 rfl) (Ba hw 86 rfl) (Ba hw 87 rfl) (Ba hw 88 rfl) e00 (g := (mkF m 1 #[vr t0, vi 0, vi 2, .unset, .unset] [(.int 2)])) rfl (by rw [hml]; rfl) (argsL := [(.int 2)]) (rest := []) rfl (lenOf Aca rfl) rfl (W := 0) (by show 2 * 0 + _ ≤ _; exact Nat.le_of_eq rfl) (hb hby D9) (by decide) (by decide) (by decide) (by decide) (by decide)
 obtain ⟨b10, k10, rfl, N10q, O10, Kc10, g_b10, gs_b10, F10_0, F10_1⟩ := hQ10
 have N10 := Fr.app N00 N10q
 have K10 := K00.trans Kc10 (fun x hx => nomatch hx)
 have s_b10 := Nat.le_trans K00.1 gs_b10
 have lt_b10 := F10_0.lt
 have f11 := (P0.keep Kc10 List.not_mem_nil)
 obtain ⟨cl12, Ar12, q12, Sz12, Nn12, Hs12, Gf12⟩ := id f11
 have hin13 := inb_of (j := 0) Sz12 ⟨by decide, by decide⟩
 have hat14 : cl12.slots[((0 : Int32)).toNatClampNeg]? = some (.int c0) := Hs12.at hin13 rfl
 obtain ⟨v15, T15, Lc15, X15, hQ15, st15⟩ := Ub X10 hx hZ hown (M5a l Z a0 hw [] b10 k10 c0 (0 : Int32) (0 : Int32) (0 : Int32) (0 : Int32) _ _ _ _ _ _ _ _ _ T10.heap n0 O10 hE F10_0 g_b10 ) (Ba hw 114 rfl) (Ba hw 115 rfl) (Ba hw 87 rfl) (Ba hw 116 rfl) rfl (g := (mkF m 20 #[vr t0, vi 0, vi 2, vr b10, vi 0] [(.int c0), (.int 0), (.ref b10)])) rfl (by rw [hml]; rfl) (argsL := [(.ref b10), (.int 0), (.int c0)]) (rest := []) rfl (lenOf Go rfl) rfl (W := 0) (by show 2 * 0 + _ ≤ _; exact Nat.le_of_eq rfl) (hb hby Rm) (by decide) (by decide) (by decide) (by decide) (by decide)
 obtain ⟨rfl, N15q, O15, Kc15, F15_0⟩ := hQ15
 have N15 := Fr.app N10 N15q
 have K15 := K10.trans Kc15 (allS (Or.inr s_b10) all0)
 have ne16 : ¬ (t0 = b10) := (Nat.ne_of_lt (Nat.lt_of_lt_of_le P0.lt gs_b10))
 have f17 := (f11.keep Kc15 (fun q => ne16 (List.mem_singleton.mp q)))
 obtain ⟨cl18, Ar18, q18, Sz18, Nn18, Hs18, Gf18⟩ := id f17
 have hin19 := inb_of (j := 1) Sz18 ⟨by decide, by decide⟩
 have hat20 : cl18.slots[((1 : Int32)).toNatClampNeg]? = some (.int c1) := Hs18.at hin19 rfl
 obtain ⟨v21, T21, Lc21, X21, hQ21, st21⟩ := Ub X15 hx hZ hown (P5a l Z a0 hw [] b10 k10 c1 ((c0 >>> ((0 : Int32) &&& 31)).toInt8.toInt32) ((c0 >>> ((8 : Int32) &&& 31)).toInt8.toInt32) (0 : Int32) (0 : Int32) _ _ _ _ _ _ _ _ _ T15.heap n0 O15 hE F15_0 g_b10 ) (Ba hw 114 rfl) (Ba hw 115 rfl) (Ba hw 87 rfl) (Ba hw 116 rfl) rfl (g := (mkF m 20 #[vr t0, vi 1, vi 2, vr b10, vi 1] [(.int c1), (.int 1), (.ref b10)])) rfl (by rw [hml]; rfl) (argsL := [(.ref b10), (.int 1), (.int c1)]) (rest := []) rfl (lenOf Go rfl) rfl (W := 0) (by show 2 * 0 + _ ≤ _; exact Nat.le_of_eq rfl) (hb hby Rm) (by decide) (by decide) (by decide) (by decide) (by decide)
 obtain ⟨rfl, N21q, O21, Kc21, F21_0⟩ := hQ21
 have N21 := Fr.app N15 N21q
 have K21 := K15.trans Kc21 (allS (Or.inr s_b10) all0)
 have k22 : Ab p e below m s₁ #[(.ref t0), (.int 0), (.int 2)] 5 T21 33 #[vr t0, vi 2, vi 2, vr b10, vi 2] [(.ref b10)] := by
  intro t k
  refine k00 t ?_
  refine Pa X00 hx hby B9 rfl ?_
  refine st10 _ ?_
  refine XS.astoreN X10.here hx rfl (hb hby G9) rfl rfl (l' := #[vr t0, vi 0, vi 2, vr b10, .unset]) rfl ?_
  refine XS.iconst X10.here hx rfl (hb hby H9) ?_
  refine XS.istore X10.here hx rfl (hb hby I9) rfl (l' := #[vr t0, vi 0, vi 2, vr b10, vi 0]) rfl ?_
  refine Wa X10 hx hby Vh rfl ?_
  refine Pa X10 hx hby Bh rfl ?_
  refine XS.icmpNo X10.here hx rfl (hb hby Dh) rfl (tlt (by decide : (0 : Int32) < (2 : Int32))).2.1 ?_
  refine Va X10 hx hby Im rfl rfl ?_
  refine Wa X10 hx hby Km rfl ?_
  refine Va X10 hx hby Lm rfl rfl ?_
  refine Pa X10 hx hby Mm rfl ?_
  show Za p e below m T10 19 #[vr t0, vi 0, vi 2, vr b10, vi 0] [(.int 0), (.ref t0), (.int 0), (.ref b10)] t
  refine X10.caload hx (j := 0) (v := (.int c0)) (by exact Ar12.1) (State.isArrayOf_alike hZ.alike Ar12.2.1) Ar12.2.2 hin13 hat14 (g := (mkF m 19 #[vr t0, vi 0, vi 2, vr b10, vi 0] [(.int 0), (.ref t0), (.int 0), (.ref b10)])) rfl rfl (hb hby Pm) _ ?_
  refine st15 _ ?_
  refine XS.iinc X15.here hx rfl (hb hby Um) rfl (l' := #[vr t0, vi ((0 : Int32) + (1 : Int32)), vi 2, vr b10, vi 0]) rfl ?_
  rw [Mh]
  refine XS.iinc X15.here hx rfl (hb hby Wm) rfl (l' := #[vr t0, vi 1, vi 2, vr b10, vi ((0 : Int32) + (1 : Int32))]) rfl ?_
  rw [Mh]
  refine XS.goto X15.here hx rfl (pc0 := 29) (pc' := 8) rfl (hb hby Ym) (by decide) (by decide) ?_
  refine Wa X15 hx hby Vh rfl ?_
  refine Pa X15 hx hby Bh rfl ?_
  refine XS.icmpNo X15.here hx rfl (hb hby Dh) rfl (tlt (by decide : (1 : Int32) < (2 : Int32))).2.1 ?_
  refine Va X15 hx hby Im rfl rfl ?_
  refine Wa X15 hx hby Km rfl ?_
  refine Va X15 hx hby Lm rfl rfl ?_
  refine Pa X15 hx hby Mm rfl ?_
  show Za p e below m T15 19 #[vr t0, vi 1, vi 2, vr b10, vi 1] [(.int 1), (.ref t0), (.int 1), (.ref b10)] t
  refine X15.caload hx (j := 1) (v := (.int c1)) (by exact Ar18.1) (State.isArrayOf_alike hZ.alike Ar18.2.1) Ar18.2.2 hin19 hat20 (g := (mkF m 19 #[vr t0, vi 1, vi 2, vr b10, vi 1] [(.int 1), (.ref t0), (.int 1), (.ref b10)])) rfl rfl (hb hby Pm) _ ?_
  refine st21 _ ?_
  refine XS.iinc X21.here hx rfl (hb hby Um) rfl (l' := #[vr t0, vi ((1 : Int32) + (1 : Int32)), vi 2, vr b10, vi 1]) rfl ?_
  rw [Hm]
  refine XS.iinc X21.here hx rfl (hb hby Wm) rfl (l' := #[vr t0, vi 2, vi 2, vr b10, vi ((1 : Int32) + (1 : Int32))]) rfl ?_
  rw [Hm]
  refine XS.goto X21.here hx rfl (pc0 := 29) (pc' := 8) rfl (hb hby Ym) (by decide) (by decide) ?_
  refine Wa X21 hx hby Vh rfl ?_
  refine Pa X21 hx hby Bh rfl ?_
  refine XS.icmpYes X21.here hx rfl (pc0 := 11) (pc' := 32) rfl (hb hby Dh) rfl (flt (by decide : ¬ ((2 : Int32) < (2 : Int32)))).2.1 (by decide) (by decide) ?_
  refine Va X21 hx hby D7 rfl rfl ?_
  exact k
 exact Zb (.ref b10) hNG hlk hret X21 rfl (by decide) (by decide) (fun fs hr => k22 _ (retOut X21 hx (t := (.array .byte)) hret rfl (Or.inr (Or.inr (Or.inr (Or.inr ⟨rfl, rfl, rfl⟩)))) (hb hby G7) hr)) ⟨b10, k10, rfl, N21, O21, K21, g_b10, s_b10, F21_0⟩
abbrev Rb : ByteArray := jdk_52_method_5_code
theorem Yaa : decode Rb 0 = .ok (.getstatic 44, 3) := by decide +kernel
theorem Zaa : decode Rb 3 = .ok (.ifCond .ne 25, 3) := by decide +kernel
theorem K9 : decode Rb 28 = .ok (.iload_n 1, 1) := by decide +kernel
theorem L9 : decode Rb 29 = .ok (.iconst 1, 1) := by decide +kernel
theorem M9 : decode Rb 30 = .ok (.ishl, 1) := by decide +kernel
theorem P9 : decode Rb 31 = .ok (.istore_n 1, 1) := by decide +kernel
theorem R9 : decode Rb 32 = .ok (.aload_n 0, 1) := by decide +kernel
theorem U9 : decode Rb 33 = .ok (.iload_n 1, 1) := by decide +kernel
theorem V9 : decode Rb 34 = .ok (.iinc 1 1, 3) := by decide +kernel
theorem W9 : decode Rb 37 = .ok (.baload, 1) := by decide +kernel
theorem Y9 : decode Rb 38 = .ok (.sipush 255, 3) := by decide +kernel
theorem Z9 : decode Rb 41 = .ok (.iand, 1) := by decide +kernel
theorem Aaa : decode Rb 42 = .ok (.getstatic 59, 3) := by decide +kernel
theorem Baa : decode Rb 45 = .ok (.ishl, 1) := by decide +kernel
theorem Daa : decode Rb 46 = .ok (.aload_n 0, 1) := by decide +kernel
theorem Gaa : decode Rb 47 = .ok (.iload_n 1, 1) := by decide +kernel
theorem Haa : decode Rb 48 = .ok (.baload, 1) := by decide +kernel
theorem Iaa : decode Rb 49 = .ok (.sipush 255, 3) := by decide +kernel
theorem Kaa : decode Rb 52 = .ok (.iand, 1) := by decide +kernel
theorem Laa : decode Rb 53 = .ok (.getstatic 63, 3) := by decide +kernel
theorem Maa : decode Rb 56 = .ok (.ishl, 1) := by decide +kernel
theorem Paa : decode Rb 57 = .ok (.ior, 1) := by decide +kernel
theorem Raa : decode Rb 58 = .ok (.i2c, 1) := by decide +kernel
theorem Uaa : decode Rb 59 = .ok (.ireturn, 1) := by decide +kernel
abbrev W0a : MethodName := ⟨"java/lang/StringUTF16", "getChar", "([BI)C"⟩
theorem I6a (l : Launch) (Z : State) (a0 : Array Value) (hw : Pb a0 Z) (ws : List Jvm.Cond) (q0 : Addr) (k0 : ClassId) (x0 x1 x2 x3 : Int32) (Ra Ya Ia Ua Ka Ga Ma : Addr) (Da : Int32) (Aa : Value) (h0 : Heap) (n0 : Nat) (O0 : Old Z n0 h0) (hE : EV Z Ra Ya Ia Ua Ka Ga Ma Da Aa) (P0 : Arv Z h0 q0 k0 .byte (4 : Int32) [(.int x0), (.int x1), (.int x2), (.int x3)] (.int 0)) :
   Ib l W0a (Jvm.Cond.code W0a jdk_52_method_5_code 2 (some .char) :: ws) (Hb 0 0 0 0) #[(.ref q0), (.int 1)] Z h0 (fun v h L => v = some (.int ((((x2 &&& (255 : Int32)) <<< ((0 : Int32) &&& 31)) ||| ((x3 &&& (255 : Int32)) <<< ((8 : Int32) &&& 31))).toUInt32.toUInt16.toUInt32.toInt32)) ∧ Fr n0 L ∧ h = h0) := by
 refine Db (plainFor_of_name Bb) n0 [] fun p e s m below meth c s₁ hx hby hml hown hnm hret hlk X00 e00 hZ N00 K00 hNG => ?_
 have k00 : Ab p e below m s₁ #[(.ref q0), (.int 1)] 2 s₁ 0 #[vr q0, vi 1] [] := fun t k => castTop (Pwa m q0 (1 : Int32) ) k
 obtain ⟨_, _, _, _, _, _, _, _, _, _, _, _, _, _, _, _, _, _, Dc, Id, Kd, _⟩ := id hE
 obtain ⟨T10, X10, e10, st10⟩ := getS2 X00 hx hZ hown (host := "") (Or.inl (Ba hw 117 rfl)) Via.refl e00 (Dc.ext O0.2) (g := (mkF m 0 #[vr q0, vi 1] [])) rfl (hb hby Yaa)
 obtain ⟨cl11, Ar11, q11, Sz11, Nn11, Hs11, Gf11⟩ := id P0
 have hin12 := inb_of (j := 2) Sz11 ⟨by decide, by decide⟩
 have hat13 : cl11.slots[((2 : Int32)).toNatClampNeg]? = some (.int x2) := Hs11.at hin12 rfl
 obtain ⟨T14, X14, e14, st14⟩ := getS2 X10 hx hZ hown (host := "") (Or.inl (Ba hw 118 rfl)) Via.refl e10 (Id.ext O0.2) (g := (mkF m 42 #[vr q0, vi 3] [(.int (x2 &&& (255 : Int32)))])) rfl (hb hby Aaa)
 obtain ⟨cl15, Ar15, q15, Sz15, Nn15, Hs15, Gf15⟩ := id P0
 have hin16 := inb_of (j := 3) Sz15 ⟨by decide, by decide⟩
 have hat17 : cl15.slots[((3 : Int32)).toNatClampNeg]? = some (.int x3) := Hs15.at hin16 rfl
 obtain ⟨T18, X18, e18, st18⟩ := getS2 X14 hx hZ hown (host := "") (Or.inl (Ba hw 119 rfl)) Via.refl e14 (Kd.ext O0.2) (g := (mkF m 53 #[vr q0, vi 3] [(.int (x3 &&& (255 : Int32))), (.int ((x2 &&& (255 : Int32)) <<< ((0 : Int32) &&& 31)))])) rfl (hb hby Laa)
 have k19 : Ab p e below m s₁ #[(.ref q0), (.int 1)] 2 T18 59 #[vr q0, vi 3] [(.int ((((x2 &&& (255 : Int32)) <<< ((0 : Int32) &&& 31)) ||| ((x3 &&& (255 : Int32)) <<< ((8 : Int32) &&& 31))).toUInt32.toUInt16.toUInt32.toInt32))] := by
  intro t k
  refine k00 t ?_
  refine st10 _ ?_
  refine XS.ifYes X10.here hx rfl (pc0 := 3) (pc' := 28) rfl (hb hby Zaa) rfl ((if0 _ _).trans (feq (by decide : ¬ ((1 : Int32) = (0 : Int32)))).2) (by decide) (by decide) ?_
  refine Pa X10 hx hby K9 rfl ?_
  refine XS.iconst X10.here hx rfl (hb hby L9) ?_
  refine XS.ishl X10.here hx rfl (hb hby M9) rfl ?_
  show Za p e below m T10 31 #[vr q0, vi 1] [(.int ((1 : Int32) <<< ((1 : Int32) &&& 31)))] t
  rw [Kwa]
  refine XS.istoreN X10.here hx rfl (hb hby P9) rfl (l' := #[vr q0, vi 2]) rfl ?_
  refine Va X10 hx hby R9 rfl rfl ?_
  refine Pa X10 hx hby U9 rfl ?_
  refine XS.iinc X10.here hx rfl (hb hby V9) rfl (l' := #[vr q0, vi ((2 : Int32) + (1 : Int32))]) rfl ?_
  rw [Lv]
  refine X10.baloadBytes hx (j := 2) (v := (.int x2)) (by rw [e10]; exact Ar11.1) (State.isArrayOf_alike hZ.alike Ar11.2.1) Ar11.2.2 hin12 hat13 (g := (mkF m 37 #[vr q0, vi 3] [(.int 2), (.ref q0)])) rfl rfl (hb hby W9) _ ?_
  refine XS.sipush X10.here hx rfl (hb hby Y9) ?_
  refine XS.iand X10.here hx rfl (hb hby Z9) rfl ?_
  refine st14 _ ?_
  refine XS.ishl X14.here hx rfl (hb hby Baa) rfl ?_
  refine Va X14 hx hby Daa rfl rfl ?_
  refine Pa X14 hx hby Gaa rfl ?_
  show Za p e below m T14 48 #[vr q0, vi 3] [(.int 3), (.ref q0), (.int ((x2 &&& (255 : Int32)) <<< ((0 : Int32) &&& 31)))] t
  refine X14.baloadBytes hx (j := 3) (v := (.int x3)) (by rw [e14]; exact Ar15.1) (State.isArrayOf_alike hZ.alike Ar15.2.1) Ar15.2.2 hin16 hat17 (g := (mkF m 48 #[vr q0, vi 3] [(.int 3), (.ref q0), (.int ((x2 &&& (255 : Int32)) <<< ((0 : Int32) &&& 31)))])) rfl rfl (hb hby Haa) _ ?_
  refine XS.sipush X14.here hx rfl (hb hby Iaa) ?_
  refine XS.iand X14.here hx rfl (hb hby Kaa) rfl ?_
  refine st18 _ ?_
  refine XS.ishl X18.here hx rfl (hb hby Maa) rfl ?_
  refine XS.ior X18.here hx rfl (hb hby Paa) rfl ?_
  refine XS.i2c X18.here hx rfl (hb hby Raa) rfl ?_
  exact k
 exact Zb (.int ((((x2 &&& (255 : Int32)) <<< ((0 : Int32) &&& 31)) ||| ((x3 &&& (255 : Int32)) <<< ((8 : Int32) &&& 31))).toUInt32.toUInt16.toUInt32.toInt32)) hNG hlk hret X18 e18 (by decide) (by decide) (fun fs hr => k19 _ (retN X18 hx (t := .char) hret (by simp) (hb hby Uaa) (by rw [I6]; exact hr))) ⟨rfl, N00, rfl⟩
theorem H7 : decode Gb 20 = .ok (.aload_n 0, 1) := by decide +kernel
theorem I7 : decode Gb 21 = .ok (.iload_n 1, 1) := by decide +kernel
theorem K7 : decode Gb 22 = .ok (.iload_n 2, 1) := by decide +kernel
theorem L7 : decode Gb 23 = .ok (.invokestatic 119, 3) := by decide +kernel
theorem M7 : decode Gb 26 = .ok (.astore 5, 2) := by decide +kernel
theorem R7 : decode Gb 28 = .ok (.aload 5, 2) := by decide +kernel
theorem U7 : decode Gb 30 = .ok (.iload 4, 2) := by decide +kernel
theorem V7 : decode Gb 32 = .ok (.invokestatic 71, 3) := by decide +kernel
theorem I1a : parseMethodDescriptor "([BI)C" = some ⟨[(.array .byte), .int], some .char⟩ := by decide +kernel
theorem W7 : decode Gb 35 = .ok (.sipush 255, 3) := by decide +kernel
theorem Y7 : decode Gb 38 = .ok (.if_icmp .gt 16, 3) := by decide +kernel
theorem Z7 : decode Gb 54 = .ok (.aload 5, 2) := by decide +kernel
theorem A8 : decode Gb 56 = .ok (.areturn, 1) := by decide +kernel
theorem K6a (l : Launch) (Z : State) (a0 : Array Value) (hw : Pb a0 Z) (ws : List Jvm.Cond) (t0 : Addr) (k0 : ClassId) (c0 c1 : Int32) (Ra Ya Ia Ua Ka Ga Ma : Addr) (Da : Int32) (Aa : Value) (h0 : Heap) (n0 : Nat) (O0 : Old Z n0 h0) (hE : EV Z Ra Ya Ia Ua Ka Ga Ma Da Aa) (P0 : Arv Z h0 t0 k0 .char (2 : Int32) [(.int c0), (.int c1)] (.int 0)) (l0 : ¬ ((255 : Int32) < c0)) (g1 : (255 : Int32) < c1) (lo0 : ¬ c0 < 0) (hi0 : ¬ (65535 : Int32) < c0) (lo1 : ¬ c1 < 0) (hi1 : ¬ (65535 : Int32) < c1) :
   Ib l Mwa (Jvm.Cond.code Mwa jdk_52_method_16_code 6 (some (.array .byte)) :: ws) (Hb 3 2 6 40) #[(.ref t0), (.int 0), (.int 2)] Z h0 (fun v h L => ∃ (b : Addr) (k : ClassId), v = some (.ref b) ∧ Fr n0 L ∧ Old Z n0 h ∧ Keep h0 h [] ∧ n0 ≤ b ∧ h0.size ≤ b ∧ Arv Z h b k .byte (4 : Int32) [(.int ((c0 >>> ((0 : Int32) &&& 31)).toInt8.toInt32)), (.int ((c0 >>> ((8 : Int32) &&& 31)).toInt8.toInt32)), (.int ((c1 >>> ((0 : Int32) &&& 31)).toInt8.toInt32)), (.int ((c1 >>> ((8 : Int32) &&& 31)).toInt8.toInt32))] (.int 0)) := by
 refine Db (plainFor_of_name Bb) n0 [] fun p e s m below meth c s₁ hx hby hml hown hnm hret hlk X00 e00 hZ N00 K00 hNG => ?_
 have k00 : Ab p e below m s₁ #[(.ref t0), (.int 0), (.int 2)] 6 s₁ 0 #[vr t0, vi 0, vi 2, .unset, .unset, .unset] [] := fun t k => castTop (D0a m t0 (0 : Int32) (2 : Int32) ) k
 obtain ⟨T10, h10, c10, X10, e10, E10, A10, Ex10, st10⟩ := newPE X00 hx hZ (Ba hw 10 rfl) e00 (g := (mkF m 1 #[vr t0, vi 0, vi 2, .unset, .unset, .unset] [(.int 2)])) rfl (hb hby L1) rfl (by decide) (cap := 2) (by decide) (by decide) (by decide) (by decide) (ad := "[B") (by decide)
 obtain ⟨b10, g10⟩ : ∃ z, z = h0.size := ⟨_, rfl⟩
 rw [← g10] at A10 st10 Ex10
 have O10 := O0.ext E10
 have g_b10 : n0 ≤ b10 := Nat.le_trans (Nat.le_of_eq O0.1.symm) (Nat.le_trans O0.2.1 (Nat.le_of_eq g10.symm))
 have s_b10 : h0.size ≤ b10 := Nat.le_trans K00.1 (Nat.le_of_eq g10.symm)
 have K10 := K00.ext E10
 have V10 : Arv Z h10 b10 c10 .byte (2 : Int32) [(.int 0), (.int 0)] (.int 0) := (Arv.new A10 (by decide)).pad (pad_rep [] (.int 0) 2)
 have lt_b10 := V10.lt
 have ne11 : ¬ (t0 = b10) := (Nat.ne_of_lt (Nat.lt_of_lt_of_le P0.lt (Nat.le_of_eq g10.symm)))
 have f12 := (P0.ext E10)
 obtain ⟨v13, T13, Lc13, X13, hQ13, st13⟩ := Ub X10 hx hZ hown (G6a l Z a0 hw [] t0 b10 k0 c10 c0 c1 _ _ _ _ _ _ _ _ _ h10 n0 O10 hE f12 V10 g_b10 ne11 l0 g1 lo0 hi0 lo1 hi1) (Ba hw 168 rfl) (Ba hw 169 rfl) (Ba hw 87 rfl) (Ba hw 170 rfl) e10 (g := (mkF m 9 #[vr t0, vi 0, vi 2, vr b10, .unset, .unset] [(.int 2), (.int 0), (.ref b10), (.int 0), (.ref t0)])) rfl (by rw [hml]; rfl) (argsL := [(.ref t0), (.int 0), (.ref b10), (.int 0), (.int 2)]) (rest := []) rfl (lenOf Zka rfl) rfl (W := 0) (by show 2 * 0 + _ ≤ _; exact Nat.le_of_eq rfl) (hb hby Z1) (by decide) (by decide) (by decide) (by decide) (by decide)
 obtain ⟨rfl, N13q, O13, Kc13, F13_0⟩ := hQ13
 have N13 := Fr.app N00 N13q
 have K13 := K10.trans Kc13 (allS (Or.inr s_b10) all0)
 have f14 := (f12.keep Kc13 (fun q => ne11 (List.mem_singleton.mp q)))
 obtain ⟨v15, T15, Lc15, X15, hQ15, st15⟩ := Ub X13 hx hZ hown (H6a l Z a0 hw [] t0 k0 c0 c1 _ _ _ _ _ _ _ _ _ T13.heap n0 O13 hE f14 ) (Ba hw 171 rfl) (Ba hw 172 rfl) (Ba hw 87 rfl) (Ba hw 173 rfl) rfl (g := (mkF m 23 #[vr t0, vi 0, vi 2, vr b10, vi 1, .unset] [(.int 2), (.int 0), (.ref t0)])) rfl (by rw [hml]; rfl) (argsL := [(.ref t0), (.int 0), (.int 2)]) (rest := []) rfl (lenOf Gba rfl) rfl (W := 0) (by show 2 * 0 + _ ≤ _; exact Nat.le_of_eq rfl) (hb hby L7) (by decide) (by decide) (by decide) (by decide) (by decide)
 obtain ⟨b15, k15, rfl, N15q, O15, Kc15, g_b15, gs_b15, F15_0⟩ := hQ15
 have N15 := Fr.app N13 N15q
 have K15 := K13.trans Kc15 (fun x hx => nomatch hx)
 have s_b15 := Nat.le_trans K13.1 gs_b15
 have lt_b15 := F15_0.lt
 obtain ⟨v16, T16, Lc16, X16, hQ16, st16⟩ := Ub X15 hx hZ hown (I6a l Z a0 hw [] b15 k15 ((c0 >>> ((0 : Int32) &&& 31)).toInt8.toInt32) ((c0 >>> ((8 : Int32) &&& 31)).toInt8.toInt32) ((c1 >>> ((0 : Int32) &&& 31)).toInt8.toInt32) ((c1 >>> ((8 : Int32) &&& 31)).toInt8.toInt32) _ _ _ _ _ _ _ _ _ T15.heap n0 O15 hE F15_0 ) (Ba hw 175 rfl) (Ba hw 176 rfl) (Ba hw 87 rfl) (Ba hw 177 rfl) rfl (g := (mkF m 32 #[vr t0, vi 0, vi 2, vr b10, vi 1, vr b15] [(.int 1), (.ref b15)])) rfl (by rw [hml]; rfl) (argsL := [(.ref b15), (.int 1)]) (rest := []) rfl (lenOf I1a rfl) rfl (W := 0) (by show 2 * 0 + _ ≤ _; exact Nat.le_of_eq rfl) (hb hby V7) (by decide) (by decide) (by decide) (by decide) (by decide)
 obtain ⟨rfl, N16q, hp16⟩ := hQ16
 have N16 := Fr.app N15 N16q
 have k17 : Ab p e below m s₁ #[(.ref t0), (.int 0), (.int 2)] 6 T16 56 #[vr t0, vi 0, vi 2, vr b10, vi 1, vr b15] [(.ref b15)] := by
  intro t k
  refine k00 t ?_
  refine Pa X00 hx hby K1 rfl ?_
  refine st10 _ ?_
  refine XS.astoreN X10.here hx rfl (hb hby M1) rfl rfl (l' := #[vr t0, vi 0, vi 2, vr b10, .unset, .unset]) rfl ?_
  refine Va X10 hx hby R1 rfl rfl ?_
  refine Pa X10 hx hby U1 rfl ?_
  refine Va X10 hx hby V1 rfl rfl ?_
  refine XS.iconst X10.here hx rfl (hb hby W1) ?_
  refine Pa X10 hx hby Y1 rfl ?_
  refine st13 _ ?_
  refine XS.istore X13.here hx rfl (hb hby Hx) rfl (l' := #[vr t0, vi 0, vi 2, vr b10, vi 1, .unset]) rfl ?_
  refine Wa X13 hx hby Ix rfl ?_
  refine Pa X13 hx hby Kx rfl ?_
  show Za p e below m T13 17 #[vr t0, vi 0, vi 2, vr b10, vi 1, .unset] [(.int 2), (.int 1)] t
  refine XS.icmpNo X13.here hx rfl (hb hby Lx) rfl (feq (by decide : ¬ ((1 : Int32) = (2 : Int32)))).1 ?_
  refine Va X13 hx hby H7 rfl rfl ?_
  refine Pa X13 hx hby I7 rfl ?_
  refine Pa X13 hx hby K7 rfl ?_
  refine st15 _ ?_
  refine XS.astore X15.here hx rfl (hb hby M7) rfl rfl (l' := #[vr t0, vi 0, vi 2, vr b10, vi 1, vr b15]) rfl ?_
  refine Dd X15 hx hby R7 rfl rfl ?_
  refine Wa X15 hx hby U7 rfl ?_
  refine st16 _ ?_
  refine XS.sipush X16.here hx rfl (hb hby W7) ?_
  refine XS.icmpYes X16.here hx rfl (pc0 := 38) (pc' := 54) rfl (hb hby Y7) rfl (tlt (by rw [P1a lo1 hi1]; exact g1)).2.2.1 (by decide) (by decide) ?_
  refine Dd X16 hx hby Z7 rfl rfl ?_
  show Za p e below m T16 56 #[vr t0, vi 0, vi 2, vr b10, vi 1, vr b15] [(.ref b15)] t
  exact k
 exact Zb (.ref b15) hNG hlk hret X16 hp16 (by decide) (by decide) (fun fs hr => k17 _ (retOut X16 hx (t := (.array .byte)) hret rfl (Or.inr (Or.inr (Or.inr (Or.inr ⟨rfl, rfl, rfl⟩)))) (hb hby A8) hr)) ⟨b15, k15, rfl, N16, O15, K15, g_b15, s_b15, F15_0⟩
theorem K8a : ((2 : Int32) - (4 : Int32)) = (-2 : Int32) := by decide
theorem L8a : (((-2 : Int32).toUInt32 >>> ((31 : Int32) &&& 31).toUInt32).toInt32) = (1 : Int32) := by decide
theorem P2a : ((1 : Int32).toInt8.toInt32) = (1 : Int32) := by decide
theorem L6a (l : Launch) (Z : State) (a0 : Array Value) (hw : Pb a0 Z) (ws : List Jvm.Cond) (q0 : Addr) (k0 : ClassId) (x0 x1 x2 x3 : Int32) (Ra Ya Ia Ua Ka Ga Ma : Addr) (Da : Int32) (Aa : Value) (h0 : Heap) (n0 : Nat) (O0 : Old Z n0 h0) (hE : EV Z Ra Ya Ia Ua Ka Ga Ma Da Aa) (P0 : Arv Z h0 q0 k0 .byte (4 : Int32) [(.int x0), (.int x1), (.int x2), (.int x3)] (.int 0)) :
   Ib l Rwa (Jvm.Cond.code Rwa jdk_52_method_15_code 2 (some .byte) :: ws) (Hb 0 0 0 0) #[(.ref q0), (.int 2)] Z h0 (fun v h L => v = some (.int 1) ∧ Fr n0 L ∧ h = h0) := by
 refine Db (plainFor_of_name Bb) n0 [] fun p e s m below meth c s₁ hx hby hml hown hnm hret hlk X00 e00 hZ N00 K00 hNG => ?_
 have k00 : Ab p e below m s₁ #[(.ref q0), (.int 2)] 2 s₁ 0 #[vr q0, vi 2] [] := fun t k => castTop (Pwa m q0 (2 : Int32) ) k
 obtain ⟨cl10, Ar10, q10, Sz10, Nn10, Hs10, Gf10⟩ := id P0
 have k11 : Ab p e below m s₁ #[(.ref q0), (.int 2)] 2 s₁ 8 #[vr q0, vi 2] [(.int 1)] := by
  intro t k
  refine k00 t ?_
  refine Pa X00 hx hby A2 rfl ?_
  refine Va X00 hx hby B2 rfl rfl ?_
  refine X00.arraylength hx (by rw [e00]; exact Ar10.1) (State.isArrayOf_alike hZ.alike Ar10.2.1) (g := (mkF m 2 #[vr q0, vi 2] [(.ref q0), (.int 2)])) rfl rfl (hb hby D2) _ ?_
  rw [len_of Sz10 Nn10]
  refine XS.isub X00.here hx rfl (hb hby G2) rfl ?_
  show Za p e below m s₁ 4 #[vr q0, vi 2] [(.int ((2 : Int32) - (4 : Int32)))] t
  rw [K8a]
  refine XS.bipush X00.here hx rfl (hb hby H2) ?_
  refine XS.iushr X00.here hx rfl (hb hby I2) rfl ?_
  show Za p e below m s₁ 7 #[vr q0, vi 2] [(.int (((-2 : Int32).toUInt32 >>> ((31 : Int32) &&& 31).toUInt32).toInt32))] t
  rw [L8a]
  refine XS.i2b X00.here hx rfl (hb hby K2) rfl ?_
  show Za p e below m s₁ 8 #[vr q0, vi 2] [(.int ((1 : Int32).toInt8.toInt32))] t
  rw [P2a]
  exact k
 exact Zb (.int 1) hNG hlk hret X00 e00 (by decide) (by decide) (fun fs hr => k11 _ (retN X00 hx (t := .byte) hret (by simp) (hb hby L2) (by first | exact hr | (rw [show nar .byte (1 : Int32) = (1 : Int32) from by first | rfl | exact I6 _ | decide]; exact hr)))) ⟨rfl, N00, rfl⟩
theorem M6a (l : Launch) (Z : State) (a0 : Array Value) (hw : Pb a0 Z) (ws : List Jvm.Cond) (a1 t0 : Addr) (k0 : ClassId) (c0 c1 : Int32) (Ra Ya Ia Ua Ka Ga Ma : Addr) (Da : Int32) (Aa : Value) (h0 : Heap) (n0 : Nat) (O0 : Old Z n0 h0) (hE : EV Z Ra Ya Ia Ua Ka Ga Ma Da Aa) (P0 : Arv Z h0 t0 k0 .char (2 : Int32) [(.int c0), (.int c1)] (.int 0)) (P1 : Exa Z h0 a1 "java/lang/String") (P2 : Fld Z h0 a1 "java/lang/String" "value" "[B" .null) (P3 : Fld Z h0 a1 "java/lang/String" "coder" "B" (.int 0)) (g_a1 : n0 ≤ a1) (na : ¬ (t0 = a1)) (l0 : ¬ ((255 : Int32) < c0)) (g1 : (255 : Int32) < c1) (lo0 : ¬ c0 < 0) (hi0 : ¬ (65535 : Int32) < c0) (lo1 : ¬ c1 < 0) (hi1 : ¬ (65535 : Int32) < c1) :
   Ib l Uwa (Jvm.Cond.code Uwa jdk_42_method_149_code 6 none :: ws) (Hb 4 2 6 57) #[(.ref a1), (.ref t0), (.int 0), (.int 2), .null] Z h0 (fun v h L => ∃ (b : Addr) (k : ClassId), v = none ∧ Fr n0 L ∧ Old Z n0 h ∧ Keep h0 h [a1] ∧ n0 ≤ b ∧ h0.size ≤ b ∧ Exa Z h a1 "java/lang/String" ∧ Fld Z h a1 "java/lang/String" "coder" "B" (.int 1) ∧ Fld Z h a1 "java/lang/String" "value" "[B" (.ref b) ∧ Arv Z h b k .byte (4 : Int32) [(.int ((c0 >>> ((0 : Int32) &&& 31)).toInt8.toInt32)), (.int ((c0 >>> ((8 : Int32) &&& 31)).toInt8.toInt32)), (.int ((c1 >>> ((0 : Int32) &&& 31)).toInt8.toInt32)), (.int ((c1 >>> ((8 : Int32) &&& 31)).toInt8.toInt32))] (.int 0)) := by
 refine Db (plainFor_of_name Mb) n0 [a1] fun p e s m below meth c s₁ hx hby hml hown hnm hret hlk X00 e00 hZ N00 K00 hNG => ?_
 have k00 : Ab p e below m s₁ #[(.ref a1), (.ref t0), (.int 0), (.int 2), .null] 6 s₁ 0 #[vr a1, vr t0, vi 0, vi 2, .val .null, .unset] [] := fun t k => castTop (Bxa m a1 t0 (0 : Int32) (2 : Int32) ) k
 obtain ⟨_, _, _, _, _, _, _, _, _, _, _, _, _, _, Vc, Mc, _⟩ := id hE
 obtain ⟨T10, X10, e10, st10⟩ := initO X00 hx hZ hown (Ba hw 64 rfl) (Ba hw 26 rfl) (Ba hw 27 rfl) e00 (g := (mkF m 1 #[vr a1, vr t0, vi 0, vi 2, .val .null, .unset] [(.ref a1)])) rfl (by rw [hml]; rfl) rfl (hb hby Px) (by decide) (W := 0) (by show 2 * 0 + _ ≤ _; exact Nat.le_of_eq rfl) (by decide)
 obtain ⟨T11, X11, e11, st11⟩ := getS2 X10 hx hZ hown (host := "") (Or.inl (Ba hw 67 rfl)) Via.refl e10 (Vc.ext O0.2) (g := (mkF m 27 #[vr a1, vr t0, vi 0, vi 2, .val .null, .unset] [])) rfl (hb hby Pv)
 obtain ⟨v12, T12, Lc12, X12, hQ12, st12⟩ := Ub X11 hx hZ hown (K6a l Z a0 hw [] t0 k0 c0 c1 _ _ _ _ _ _ _ _ _ h0 n0 O0 hE P0 l0 g1 lo0 hi0 lo1 hi1) (Ba hw 165 rfl) (Ba hw 166 rfl) (Ba hw 87 rfl) (Ba hw 167 rfl) e11 (g := (mkF m 36 #[vr a1, vr t0, vi 0, vi 2, .val .null, .unset] [(.int 2), (.int 0), (.ref t0)])) rfl (by rw [hml]; rfl) (argsL := [(.ref t0), (.int 0), (.int 2)]) (rest := []) rfl (lenOf Gba rfl) rfl (W := 0) (by show 2 * 0 + _ ≤ _; exact Nat.le_of_eq rfl) (hb hby Yv) (by decide) (by decide) (by decide) (by decide) (by decide)
 obtain ⟨b12, k12, rfl, N12q, O12, Kc12, g_b12, gs_b12, F12_0⟩ := hQ12
 have N12 := Fr.app N00 N12q
 have K12 := K00.trans Kc12 (fun x hx => nomatch hx)
 have s_b12 := Nat.le_trans K00.1 gs_b12
 have lt_b12 := F12_0.lt
 obtain ⟨v13, T13, Lc13, X13, hQ13, st13⟩ := Ub X12 hx hZ hown (L6a l Z a0 hw [] b12 k12 ((c0 >>> ((0 : Int32) &&& 31)).toInt8.toInt32) ((c0 >>> ((8 : Int32) &&& 31)).toInt8.toInt32) ((c1 >>> ((0 : Int32) &&& 31)).toInt8.toInt32) ((c1 >>> ((8 : Int32) &&& 31)).toInt8.toInt32) _ _ _ _ _ _ _ _ _ T12.heap n0 O12 hE F12_0 ) (Ba hw 178 rfl) (Ba hw 179 rfl) (Ba hw 87 rfl) (Ba hw 180 rfl) rfl (g := (mkF m 45 #[vr a1, vr t0, vi 0, vi 2, .val .null, vr b12] [(.int 2), (.ref b12), (.ref a1)])) rfl (by rw [hml]; rfl) (argsL := [(.ref b12), (.int 2)]) (rest := [(.ref a1)]) rfl (lenOf Vxa rfl) rfl (W := 1) (by show 2 * 0 + _ ≤ _; exact Nat.le_of_eq rfl) (hb hby Gw) (by decide) (by decide) (by decide) (by decide) (by decide)
 obtain ⟨rfl, N13q, hp13⟩ := hQ13
 have N13 := Fr.app N12 N13q
 have f14 := (P1.keep Kc12)
 have f15 := (P3.keep Kc12 List.not_mem_nil)
 obtain ⟨T16, h16, X16, e16, W16, st16⟩ := putFN X13 hx hZ hown (Ba hw 157 rfl) Via.refl hp13 f15 f14 (Or.inr ⟨(Ba hw 32 rfl), rfl, hnm⟩) (Ba hw 30 rfl) (ty := .byte) (v' := .int (1 : Int32)) (by decide) rfl (by decide) (g := (mkF m 48 #[vr a1, vr t0, vi 0, vi 2, .val .null, vr b12] [(.int 1), (.ref a1)])) rfl rfl (hb hby Hw)
 have F16_coder := f15.same W16
 have N16 := Fr.snoc X16 N13 g_a1
 have O16 := O12.wr W16 g_a1
 have K16 := K12.wr W16 (Or.inl (List.mem_of_getElem? (i := 0) rfl))
 have f17 := (f14.wr W16)
 have f18 := ((P2.keep Kc12 List.not_mem_nil).other W16 (Or.inr (slot_ne (Or.inr (Ba hw 31 rfl)) (Or.inr (Ba hw 32 rfl)) (by decide) (t := (.array .byte)) (t' := .byte) (by decide) (by decide))))
 obtain ⟨T19, h19, X19, e19, W19, st19⟩ := putF X16 hx hZ hown (host := "") (Or.inl (Ba hw 156 rfl)) Via.refl e16 f18 f17 (Or.inr ⟨(Ba hw 31 rfl), rfl, hnm⟩) (Ba hw 30 rfl) (ty := (.array .byte)) (by decide) rfl rfl (g := (mkF m 54 #[vr a1, vr t0, vi 0, vi 2, .val .null, vr b12] [(.ref b12), (.ref a1)])) rfl rfl (hb hby Lw)
 have F19_value := f18.same W19
 have N19 := Fr.snoc X19 N16 g_a1
 have O19 := O16.wr W19 g_a1
 have K19 := K16.wr W19 (Or.inl (List.mem_of_getElem? (i := 0) rfl))
 have k20 : Ab p e below m s₁ #[(.ref a1), (.ref t0), (.int 0), (.int 2), .null] 6 T19 57 #[vr a1, vr t0, vi 0, vi 2, .val .null, vr b12] [] := by
  intro t k
  refine k00 t ?_
  refine Va X00 hx hby Mx rfl rfl ?_
  refine st10 _ ?_
  refine Pa X10 hx hby Rx rfl ?_
  refine XS.ifYes X10.here hx rfl (pc0 := 5) (pc' := 27) rfl (hb hby Ux) rfl ((if0 _ _).trans (feq (by decide : ¬ ((2 : Int32) = (0 : Int32)))).2) (by decide) (by decide) ?_
  refine st11 _ ?_
  refine XS.ifNo X11.here hx rfl (hb hby Rv) rfl ((if0 _ _).trans (feq Mc).1) ?_
  refine Va X11 hx hby Uv rfl rfl ?_
  refine Pa X11 hx hby Vv rfl ?_
  refine Pa X11 hx hby Wv rfl ?_
  refine st12 _ ?_
  refine XS.astore X12.here hx rfl (hb hby Zv) rfl rfl (l' := #[vr a1, vr t0, vi 0, vi 2, .val .null, vr b12]) rfl ?_
  refine Va X12 hx hby Aw rfl rfl ?_
  show Za p e below m T12 42 #[vr a1, vr t0, vi 0, vi 2, .val .null, vr b12] [(.ref a1)] t
  refine Dd X12 hx hby Bw rfl rfl ?_
  refine Pa X12 hx hby Dw rfl ?_
  refine st13 _ ?_
  refine st16 _ ?_
  refine Va X16 hx hby Iw rfl rfl ?_
  refine Dd X16 hx hby Kw rfl rfl ?_
  refine st19 _ ?_
  exact k
 have f21 := (f17.wr W19)
 have f22 := (F16_coder.other W19 (Or.inr (slot_ne (Or.inr (Ba hw 32 rfl)) (Or.inr (Ba hw 31 rfl)) (by decide) (t := .byte) (t' := (.array .byte)) (by decide) (by decide))))
 have ne23 : ¬ (b12 = a1) := (Ne.symm (Nat.ne_of_lt (Nat.lt_of_lt_of_le P1.lt gs_b12)))
 have f24 := ((F12_0.other W16 ne23).other W19 ne23)
 exact Yg hNG hlk X19 e19 (by decide) (by decide) (fun fs hr => k20 _ (X19.returnOut hx hret (hb hby Mw) hr)) ⟨b12, k12, rfl, N19, O19, K19, g_b12, s_b12, f21, f22, F19_value, f24⟩
theorem Y1a (l : Launch) (Z : State) (a0 : Array Value) (hw : Pb a0 Z) (ws : List Jvm.Cond) (a1 t0 : Addr) (k0 : ClassId) (c0 c1 : Int32) (Ra Ya Ia Ua Ka Ga Ma : Addr) (Da : Int32) (Aa : Value) (h0 : Heap) (n0 : Nat) (O0 : Old Z n0 h0) (hE : EV Z Ra Ya Ia Ua Ka Ga Ma Da Aa) (P0 : Arv Z h0 t0 k0 .char (2 : Int32) [(.int c0), (.int c1)] (.int 0)) (P1 : Exa Z h0 a1 "java/lang/String") (P2 : Fld Z h0 a1 "java/lang/String" "value" "[B" .null) (P3 : Fld Z h0 a1 "java/lang/String" "coder" "B" (.int 0)) (g_a1 : n0 ≤ a1) (na : ¬ (t0 = a1)) (l0 : ¬ ((255 : Int32) < c0)) (g1 : (255 : Int32) < c1) (lo0 : ¬ c0 < 0) (hi0 : ¬ (65535 : Int32) < c0) (lo1 : ¬ c1 < 0) (hi1 : ¬ (65535 : Int32) < c1) :
   Ib l Vwa (Jvm.Cond.code Vwa jdk_42_method_3_code 2 none :: ws) (Hb 5 2 6 74) #[(.ref a1), (.ref t0)] Z h0 (fun v h L => ∃ (b : Addr) (k : ClassId), v = none ∧ Fr n0 L ∧ Old Z n0 h ∧ Keep h0 h [a1] ∧ n0 ≤ b ∧ h0.size ≤ b ∧ Exa Z h a1 "java/lang/String" ∧ Fld Z h a1 "java/lang/String" "coder" "B" (.int 1) ∧ Fld Z h a1 "java/lang/String" "value" "[B" (.ref b) ∧ Arv Z h b k .byte (4 : Int32) [(.int ((c0 >>> ((0 : Int32) &&& 31)).toInt8.toInt32)), (.int ((c0 >>> ((8 : Int32) &&& 31)).toInt8.toInt32)), (.int ((c1 >>> ((0 : Int32) &&& 31)).toInt8.toInt32)), (.int ((c1 >>> ((8 : Int32) &&& 31)).toInt8.toInt32))] (.int 0)) := by
 refine Db (plainFor_of_name Mb) n0 [a1] fun p e s m below meth c s₁ hx hby hml hown hnm hret hlk X00 e00 hZ N00 K00 hNG => ?_
 have k00 : Ab p e below m s₁ #[(.ref a1), (.ref t0)] 2 s₁ 0 #[vr a1, vr t0] [] := fun t k => castTop (Hza m a1 t0 ) k
 obtain ⟨cl10, Ar10, q10, Sz10, Nn10, Hs10, Gf10⟩ := id P0
 obtain ⟨v11, T11, Lc11, X11, hQ11, st11⟩ := G1 X00 hx hZ hown (a := a1) (M6a l Z a0 hw [] a1 t0 k0 c0 c1 _ _ _ _ _ _ _ _ _ h0 n0 O0 hE P0 P1 P2 P3 g_a1 na l0 g1 lo0 hi0 lo1 hi1) (Ba hw 162 rfl) (Ba hw 163 rfl) (Ba hw 29 rfl) (Ba hw 164 rfl) e00 (g := (mkF m 6 #[vr a1, vr t0] [.null, (.int 2), (.int 0), (.ref t0), (.ref a1)])) rfl (by rw [hml]; rfl) (argsL := [(.ref t0), (.int 0), (.int 2), .null]) (rest := []) rfl (lenOf Vx rfl) rfl (W := 0) (by show 2 * 0 + _ ≤ _; exact Nat.le_of_eq rfl) (hb hby V5) (by decide) (by decide) (by decide) (by decide) rfl (by decide)
 obtain ⟨b11, k11, rfl, N11q, O11, Kc11, g_b11, gs_b11, F11_0, F11_1, F11_2, F11_3⟩ := hQ11
 have N11 := Fr.app N00 N11q
 have K11 := K00.trans Kc11 (allS (Or.inl (List.mem_of_getElem? (i := 0) rfl)) all0)
 have s_b11 := Nat.le_trans K00.1 gs_b11
 have lt_b11 := F11_3.lt
 have k12 : Ab p e below m s₁ #[(.ref a1), (.ref t0)] 2 T11 9 #[vr a1, vr t0] [] := by
  intro t k
  refine k00 t ?_
  refine Va X00 hx hby I5 rfl rfl ?_
  refine Va X00 hx hby K5 rfl rfl ?_
  refine XS.iconst X00.here hx rfl (hb hby L5) ?_
  refine Va X00 hx hby M5 rfl rfl ?_
  refine X00.arraylength hx (by rw [e00]; exact Ar10.1) (State.isArrayOf_alike hZ.alike Ar10.2.1) (g := (mkF m 4 #[vr a1, vr t0] [(.ref t0), (.int 0), (.ref t0), (.ref a1)])) rfl rfl (hb hby R5) _ ?_
  rw [len_of Sz10 Nn10]
  refine XS.aconstNull X00.here hx rfl (hb hby U5) ?_
  refine st11 _ ?_
  exact k
 exact Yg hNG hlk X11 rfl (by decide) (by decide) (fun fs hr => k12 _ (X11.returnOut hx hret (hb hby W5) hr)) ⟨b11, k11, rfl, N11, O11, K11, g_b11, s_b11, F11_0, F11_1, F11_2, F11_3⟩
theorem P6a (l : Launch) (Z : State) (a0 : Array Value) (hw : Pb a0 Z) (ws : List Jvm.Cond) (t0 t1 : Addr) (k0 k1 : ClassId) (c0 c1 c2 : Int32) (Ra Ya Ia Ua Ka Ga Ma : Addr) (Da : Int32) (Aa : Value) (h0 : Heap) (n0 : Nat) (O0 : Old Z n0 h0) (hE : EV Z Ra Ya Ia Ua Ka Ga Ma Da Aa) (P0 : Arv Z h0 t0 k0 .char (3 : Int32) [(.int c0), (.int c1), (.int c2)] (.int 0)) (P1 : Arv Z h0 t1 k1 .byte (3 : Int32) [(.int 0), (.int 0), (.int 0)] (.int 0)) (g_t1 : n0 ≤ t1) (nt : ¬ (t0 = t1)) (l0 : ¬ ((255 : Int32) < c0)) (g1 : (255 : Int32) < c1) (lo0 : ¬ c0 < 0) (hi0 : ¬ (65535 : Int32) < c0) (lo1 : ¬ c1 < 0) (hi1 : ¬ (65535 : Int32) < c1) (lo2 : ¬ c2 < 0) (hi2 : ¬ (65535 : Int32) < c2) :
   Ib l Lwa (Jvm.Cond.code Lwa jdk_52_method_21_code 7 (some .int) :: ws) (Hb 0 0 0 0) #[(.ref t0), (.int 0), (.ref t1), (.int 0), (.int 3)] Z h0 (fun v h L => v = some (.int 1) ∧ Fr n0 L ∧ Old Z n0 h ∧ Keep h0 h [t1] ∧ Arv Z h t1 k1 .byte (3 : Int32) [(.int (c0.toInt8.toInt32)), (.int 0), (.int 0)] (.int 0)) := by
 refine Db (plainFor_of_name Bb) n0 [t1] fun p e s m below meth c s₁ hx hby hml hown hnm hret hlk X00 e00 hZ N00 K00 hNG => ?_
 have k00 : Ab p e below m s₁ #[(.ref t0), (.int 0), (.ref t1), (.int 0), (.int 3)] 7 s₁ 0 #[vr t0, vi 0, vr t1, vi 0, vi 3, .unset, .unset] [] := fun t k => castTop (Axa m t0 (0 : Int32) t1 (0 : Int32) (3 : Int32) ) k
 obtain ⟨cl10, Ar10, q10, Sz10, Nn10, Hs10, Gf10⟩ := id P0
 have hin11 := inb_of (j := 0) Sz10 ⟨by decide, by decide⟩
 have hat12 : cl10.slots[((0 : Int32)).toNatClampNeg]? = some (.int c0) := Hs10.at hin11 rfl
 obtain ⟨cl13, Ar13, q13, Sz13, Nn13, Hs13, Gf13⟩ := id P1
 have hin14 := inb_of (j := 0) Sz13 ⟨by decide, by decide⟩
 obtain ⟨T15, h15, X15, e15, W15, st15⟩ := stB X00 hx hZ e00 Ar13 (j := 0) hin14 (g := (mkF m 31 #[vr t0, vi 0, vr t1, vi 0, vi 3, vi 0, vi c0] [(.int (c0.toInt8.toInt32)), (.int 0), (.ref t1)])) rfl rfl (hb hby Ds)
 have V15 : Arv Z h15 t1 k1 .byte (3 : Int32) [(.int (c0.toInt8.toInt32)), (.int 0), (.int 0)] (.int 0) := by
   have q := Arv.set Ar13 q13 Sz13 Nn13 Hs13 Gf13 (fits_nar_byte _) W15 0 rfl (Nat.le_of_ble_eq_true rfl)
   first | exact q | (simp only [Bl, Pd] at q; exact q)
 have N15 := Fr.snoc X15 N00 g_t1
 have O15 := O0.wr W15 g_t1
 have K15 := K00.wr W15 (Or.inl (List.mem_of_getElem? (i := 0) rfl))
 have f16 := (P0.other W15 nt)
 obtain ⟨cl17, Ar17, q17, Sz17, Nn17, Hs17, Gf17⟩ := id f16
 have hin18 := inb_of (j := 1) Sz17 ⟨by decide, by decide⟩
 have hat19 : cl17.slots[((1 : Int32)).toNatClampNeg]? = some (.int c1) := Hs17.at hin18 rfl
 have k20 : Ab p e below m s₁ #[(.ref t0), (.int 0), (.ref t1), (.int 0), (.int 3)] 7 T15 25 #[vr t0, vi 1, vr t1, vi 1, vi 3, vi 1, vi c1] [(.int 1)] := by
  intro t k
  refine k00 t ?_
  refine XS.iconst X00.here hx rfl (hb hby H1) ?_
  refine XS.istore X00.here hx rfl (hb hby I1) rfl (l' := #[vr t0, vi 0, vr t1, vi 0, vi 3, vi 0, .unset]) rfl ?_
  refine Wa X00 hx hby Ph rfl ?_
  refine Wa X00 hx hby Rh rfl ?_
  refine XS.icmpNo X00.here hx rfl (hb hby Uh) rfl (tlt (by decide : (0 : Int32) < (3 : Int32))).2.1 ?_
  refine Va X00 hx hby Bi rfl rfl ?_
  refine Pa X00 hx hby Di rfl ?_
  refine X00.caload hx (j := 0) (v := (.int c0)) (by rw [e00]; exact Ar10.1) (State.isArrayOf_alike hZ.alike Ar10.2.1) Ar10.2.2 hin11 hat12 (g := (mkF m 12 #[vr t0, vi 0, vr t1, vi 0, vi 3, vi 0, .unset] [(.int 0), (.ref t0)])) rfl rfl (hb hby Gi) _ ?_
  refine XS.istore X00.here hx rfl (hb hby Hi) rfl (l' := #[vr t0, vi 0, vr t1, vi 0, vi 3, vi 0, vi c0]) rfl ?_
  refine Wa X00 hx hby Ii rfl ?_
  refine XS.sipush X00.here hx rfl (hb hby Ki) ?_
  refine XS.icmpYes X00.here hx rfl (pc0 := 20) (pc' := 26) rfl (hb hby Li) rfl (flt l0).2.2.2 (by decide) (by decide) ?_
  show Za p e below m s₁ 26 #[vr t0, vi 0, vr t1, vi 0, vi 3, vi 0, vi c0] [] t
  refine Va X00 hx hby Yr rfl rfl ?_
  refine Pa X00 hx hby Zr rfl ?_
  refine Wa X00 hx hby As rfl ?_
  refine XS.i2b X00.here hx rfl (hb hby Bs) rfl ?_
  refine st15 _ ?_
  refine XS.iinc X15.here hx rfl (hb hby Gs) rfl (l' := #[vr t0, vi ((0 : Int32) + (1 : Int32)), vr t1, vi 0, vi 3, vi 0, vi c0]) rfl ?_
  rw [Mh]
  refine XS.iinc X15.here hx rfl (hb hby Hs) rfl (l' := #[vr t0, vi 1, vr t1, vi ((0 : Int32) + (1 : Int32)), vi 3, vi 0, vi c0]) rfl ?_
  rw [Mh]
  refine XS.iinc X15.here hx rfl (hb hby Is) rfl (l' := #[vr t0, vi 1, vr t1, vi 1, vi 3, vi ((0 : Int32) + (1 : Int32)), vi c0]) rfl ?_
  rw [Mh]
  refine XS.goto X15.here hx rfl (pc0 := 41) (pc' := 3) rfl (hb hby Ks) (by decide) (by decide) ?_
  refine Wa X15 hx hby Ph rfl ?_
  refine Wa X15 hx hby Rh rfl ?_
  refine XS.icmpNo X15.here hx rfl (hb hby Uh) rfl (tlt (by decide : (1 : Int32) < (3 : Int32))).2.1 ?_
  show Za p e below m T15 10 #[vr t0, vi 1, vr t1, vi 1, vi 3, vi 1, vi c0] [] t
  refine Va X15 hx hby Bi rfl rfl ?_
  refine Pa X15 hx hby Di rfl ?_
  refine X15.caload hx (j := 1) (v := (.int c1)) (by rw [e15]; exact Ar17.1) (State.isArrayOf_alike hZ.alike Ar17.2.1) Ar17.2.2 hin18 hat19 (g := (mkF m 12 #[vr t0, vi 1, vr t1, vi 1, vi 3, vi 1, vi c0] [(.int 1), (.ref t0)])) rfl rfl (hb hby Gi) _ ?_
  refine XS.istore X15.here hx rfl (hb hby Hi) rfl (l' := #[vr t0, vi 1, vr t1, vi 1, vi 3, vi 1, vi c1]) rfl ?_
  refine Wa X15 hx hby Ii rfl ?_
  refine XS.sipush X15.here hx rfl (hb hby Ki) ?_
  refine XS.icmpNo X15.here hx rfl (hb hby Li) rfl (tlt g1).2.2.2 ?_
  refine Wa X15 hx hby A7 rfl ?_
  exact k
 exact Zb (.int 1) hNG hlk hret X15 e15 (by decide) (by decide) (fun fs hr => k20 _ (retOut X15 hx (t := .int) hret rfl (Or.inl ⟨rfl, Or.inl rfl, _, rfl⟩) (hb hby B7) hr)) ⟨rfl, N15, O15, K15, V15⟩
theorem R6a (l : Launch) (Z : State) (a0 : Array Value) (hw : Pb a0 Z) (ws : List Jvm.Cond) (t0 : Addr) (k0 : ClassId) (c0 c1 c2 : Int32) (Ra Ya Ia Ua Ka Ga Ma : Addr) (Da : Int32) (Aa : Value) (h0 : Heap) (n0 : Nat) (O0 : Old Z n0 h0) (hE : EV Z Ra Ya Ia Ua Ka Ga Ma Da Aa) (P0 : Arv Z h0 t0 k0 .char (3 : Int32) [(.int c0), (.int c1), (.int c2)] (.int 0)) :
   Ib l V0a (Jvm.Cond.code V0a jdk_52_method_14_code 5 (some (.array .byte)) :: ws) (Hb 2 1 6 24) #[(.ref t0), (.int 0), (.int 3)] Z h0 (fun v h L => ∃ (b : Addr) (k : ClassId), v = some (.ref b) ∧ Fr n0 L ∧ Old Z n0 h ∧ Keep h0 h [] ∧ n0 ≤ b ∧ h0.size ≤ b ∧ Arv Z h b k .byte (6 : Int32) [(.int ((c0 >>> ((0 : Int32) &&& 31)).toInt8.toInt32)), (.int ((c0 >>> ((8 : Int32) &&& 31)).toInt8.toInt32)), (.int ((c1 >>> ((0 : Int32) &&& 31)).toInt8.toInt32)), (.int ((c1 >>> ((8 : Int32) &&& 31)).toInt8.toInt32)), (.int ((c2 >>> ((0 : Int32) &&& 31)).toInt8.toInt32)), (.int ((c2 >>> ((8 : Int32) &&& 31)).toInt8.toInt32))] (.int 0)) := by
 refine Db (plainFor_of_name Bb) n0 [] fun p e s m below meth c s₁ hx hby hml hown hnm hret hlk X00 e00 hZ N00 K00 hNG => ?_
 have k00 : Ab p e below m s₁ #[(.ref t0), (.int 0), (.int 3)] 5 s₁ 0 #[vr t0, vi 0, vi 3, .unset, .unset] [] := fun t k => castTop (Zba m t0 (0 : Int32) (3 : Int32) ) k
 obtain ⟨v10, T10, Lc10, X10, hQ10, st10⟩ := Ub X00 hx hZ hown (R1a l Z a0 hw []  _ _ _ _ _ _ _ _ _ h0 n0 O0 hE  ) (Ba hw 174 rfl) (Ba hw 86 rfl) (Ba hw 87 rfl) (Ba hw 88 rfl) e00 (g := (mkF m 1 #[vr t0, vi 0, vi 3, .unset, .unset] [(.int 3)])) rfl (by rw [hml]; rfl) (argsL := [(.int 3)]) (rest := []) rfl (lenOf Aca rfl) rfl (W := 0) (by show 2 * 0 + _ ≤ _; exact Nat.le_of_eq rfl) (hb hby D9) (by decide) (by decide) (by decide) (by decide) (by decide)
 obtain ⟨b10, k10, rfl, N10q, O10, Kc10, g_b10, gs_b10, F10_0, F10_1⟩ := hQ10
 have N10 := Fr.app N00 N10q
 have K10 := K00.trans Kc10 (fun x hx => nomatch hx)
 have s_b10 := Nat.le_trans K00.1 gs_b10
 have lt_b10 := F10_0.lt
 have f11 := (P0.keep Kc10 List.not_mem_nil)
 obtain ⟨cl12, Ar12, q12, Sz12, Nn12, Hs12, Gf12⟩ := id f11
 have hin13 := inb_of (j := 0) Sz12 ⟨by decide, by decide⟩
 have hat14 : cl12.slots[((0 : Int32)).toNatClampNeg]? = some (.int c0) := Hs12.at hin13 rfl
 obtain ⟨v15, T15, Lc15, X15, hQ15, st15⟩ := Ub X10 hx hZ hown (U1a l Z a0 hw [] b10 k10 c0 (0 : Int32) (0 : Int32) (0 : Int32) (0 : Int32) (0 : Int32) (0 : Int32) _ _ _ _ _ _ _ _ _ T10.heap n0 O10 hE F10_0 g_b10 ) (Ba hw 114 rfl) (Ba hw 115 rfl) (Ba hw 87 rfl) (Ba hw 116 rfl) rfl (g := (mkF m 20 #[vr t0, vi 0, vi 3, vr b10, vi 0] [(.int c0), (.int 0), (.ref b10)])) rfl (by rw [hml]; rfl) (argsL := [(.ref b10), (.int 0), (.int c0)]) (rest := []) rfl (lenOf Go rfl) rfl (W := 0) (by show 2 * 0 + _ ≤ _; exact Nat.le_of_eq rfl) (hb hby Rm) (by decide) (by decide) (by decide) (by decide) (by decide)
 obtain ⟨rfl, N15q, O15, Kc15, F15_0⟩ := hQ15
 have N15 := Fr.app N10 N15q
 have K15 := K10.trans Kc15 (allS (Or.inr s_b10) all0)
 have ne16 : ¬ (t0 = b10) := (Nat.ne_of_lt (Nat.lt_of_lt_of_le P0.lt gs_b10))
 have f17 := (f11.keep Kc15 (fun q => ne16 (List.mem_singleton.mp q)))
 obtain ⟨cl18, Ar18, q18, Sz18, Nn18, Hs18, Gf18⟩ := id f17
 have hin19 := inb_of (j := 1) Sz18 ⟨by decide, by decide⟩
 have hat20 : cl18.slots[((1 : Int32)).toNatClampNeg]? = some (.int c1) := Hs18.at hin19 rfl
 obtain ⟨v21, T21, Lc21, X21, hQ21, st21⟩ := Ub X15 hx hZ hown (B0a l Z a0 hw [] b10 k10 c1 ((c0 >>> ((0 : Int32) &&& 31)).toInt8.toInt32) ((c0 >>> ((8 : Int32) &&& 31)).toInt8.toInt32) (0 : Int32) (0 : Int32) (0 : Int32) (0 : Int32) _ _ _ _ _ _ _ _ _ T15.heap n0 O15 hE F15_0 g_b10 ) (Ba hw 114 rfl) (Ba hw 115 rfl) (Ba hw 87 rfl) (Ba hw 116 rfl) rfl (g := (mkF m 20 #[vr t0, vi 1, vi 3, vr b10, vi 1] [(.int c1), (.int 1), (.ref b10)])) rfl (by rw [hml]; rfl) (argsL := [(.ref b10), (.int 1), (.int c1)]) (rest := []) rfl (lenOf Go rfl) rfl (W := 0) (by show 2 * 0 + _ ≤ _; exact Nat.le_of_eq rfl) (hb hby Rm) (by decide) (by decide) (by decide) (by decide) (by decide)
 obtain ⟨rfl, N21q, O21, Kc21, F21_0⟩ := hQ21
 have N21 := Fr.app N15 N21q
 have K21 := K15.trans Kc21 (allS (Or.inr s_b10) all0)
 have f22 := (f17.keep Kc21 (fun q => ne16 (List.mem_singleton.mp q)))
 obtain ⟨cl23, Ar23, q23, Sz23, Nn23, Hs23, Gf23⟩ := id f22
 have hin24 := inb_of (j := 2) Sz23 ⟨by decide, by decide⟩
 have hat25 : cl23.slots[((2 : Int32)).toNatClampNeg]? = some (.int c2) := Hs23.at hin24 rfl
 obtain ⟨v26, T26, Lc26, X26, hQ26, st26⟩ := Ub X21 hx hZ hown (V1a l Z a0 hw [] b10 k10 c2 ((c0 >>> ((0 : Int32) &&& 31)).toInt8.toInt32) ((c0 >>> ((8 : Int32) &&& 31)).toInt8.toInt32) ((c1 >>> ((0 : Int32) &&& 31)).toInt8.toInt32) ((c1 >>> ((8 : Int32) &&& 31)).toInt8.toInt32) (0 : Int32) (0 : Int32) _ _ _ _ _ _ _ _ _ T21.heap n0 O21 hE F21_0 g_b10 ) (Ba hw 114 rfl) (Ba hw 115 rfl) (Ba hw 87 rfl) (Ba hw 116 rfl) rfl (g := (mkF m 20 #[vr t0, vi 2, vi 3, vr b10, vi 2] [(.int c2), (.int 2), (.ref b10)])) rfl (by rw [hml]; rfl) (argsL := [(.ref b10), (.int 2), (.int c2)]) (rest := []) rfl (lenOf Go rfl) rfl (W := 0) (by show 2 * 0 + _ ≤ _; exact Nat.le_of_eq rfl) (hb hby Rm) (by decide) (by decide) (by decide) (by decide) (by decide)
 obtain ⟨rfl, N26q, O26, Kc26, F26_0⟩ := hQ26
 have N26 := Fr.app N21 N26q
 have K26 := K21.trans Kc26 (allS (Or.inr s_b10) all0)
 have k27 : Ab p e below m s₁ #[(.ref t0), (.int 0), (.int 3)] 5 T26 33 #[vr t0, vi 3, vi 3, vr b10, vi 3] [(.ref b10)] := by
  intro t k
  refine k00 t ?_
  refine Pa X00 hx hby B9 rfl ?_
  refine st10 _ ?_
  refine XS.astoreN X10.here hx rfl (hb hby G9) rfl rfl (l' := #[vr t0, vi 0, vi 3, vr b10, .unset]) rfl ?_
  refine XS.iconst X10.here hx rfl (hb hby H9) ?_
  refine XS.istore X10.here hx rfl (hb hby I9) rfl (l' := #[vr t0, vi 0, vi 3, vr b10, vi 0]) rfl ?_
  refine Wa X10 hx hby Vh rfl ?_
  refine Pa X10 hx hby Bh rfl ?_
  refine XS.icmpNo X10.here hx rfl (hb hby Dh) rfl (tlt (by decide : (0 : Int32) < (3 : Int32))).2.1 ?_
  refine Va X10 hx hby Im rfl rfl ?_
  refine Wa X10 hx hby Km rfl ?_
  refine Va X10 hx hby Lm rfl rfl ?_
  refine Pa X10 hx hby Mm rfl ?_
  show Za p e below m T10 19 #[vr t0, vi 0, vi 3, vr b10, vi 0] [(.int 0), (.ref t0), (.int 0), (.ref b10)] t
  refine X10.caload hx (j := 0) (v := (.int c0)) (by exact Ar12.1) (State.isArrayOf_alike hZ.alike Ar12.2.1) Ar12.2.2 hin13 hat14 (g := (mkF m 19 #[vr t0, vi 0, vi 3, vr b10, vi 0] [(.int 0), (.ref t0), (.int 0), (.ref b10)])) rfl rfl (hb hby Pm) _ ?_
  refine st15 _ ?_
  refine XS.iinc X15.here hx rfl (hb hby Um) rfl (l' := #[vr t0, vi ((0 : Int32) + (1 : Int32)), vi 3, vr b10, vi 0]) rfl ?_
  rw [Mh]
  refine XS.iinc X15.here hx rfl (hb hby Wm) rfl (l' := #[vr t0, vi 1, vi 3, vr b10, vi ((0 : Int32) + (1 : Int32))]) rfl ?_
  rw [Mh]
  refine XS.goto X15.here hx rfl (pc0 := 29) (pc' := 8) rfl (hb hby Ym) (by decide) (by decide) ?_
  refine Wa X15 hx hby Vh rfl ?_
  refine Pa X15 hx hby Bh rfl ?_
  refine XS.icmpNo X15.here hx rfl (hb hby Dh) rfl (tlt (by decide : (1 : Int32) < (3 : Int32))).2.1 ?_
  refine Va X15 hx hby Im rfl rfl ?_
  refine Wa X15 hx hby Km rfl ?_
  refine Va X15 hx hby Lm rfl rfl ?_
  refine Pa X15 hx hby Mm rfl ?_
  show Za p e below m T15 19 #[vr t0, vi 1, vi 3, vr b10, vi 1] [(.int 1), (.ref t0), (.int 1), (.ref b10)] t
  refine X15.caload hx (j := 1) (v := (.int c1)) (by exact Ar18.1) (State.isArrayOf_alike hZ.alike Ar18.2.1) Ar18.2.2 hin19 hat20 (g := (mkF m 19 #[vr t0, vi 1, vi 3, vr b10, vi 1] [(.int 1), (.ref t0), (.int 1), (.ref b10)])) rfl rfl (hb hby Pm) _ ?_
  refine st21 _ ?_
  refine XS.iinc X21.here hx rfl (hb hby Um) rfl (l' := #[vr t0, vi ((1 : Int32) + (1 : Int32)), vi 3, vr b10, vi 1]) rfl ?_
  rw [Hm]
  refine XS.iinc X21.here hx rfl (hb hby Wm) rfl (l' := #[vr t0, vi 2, vi 3, vr b10, vi ((1 : Int32) + (1 : Int32))]) rfl ?_
  rw [Hm]
  refine XS.goto X21.here hx rfl (pc0 := 29) (pc' := 8) rfl (hb hby Ym) (by decide) (by decide) ?_
  refine Wa X21 hx hby Vh rfl ?_
  refine Pa X21 hx hby Bh rfl ?_
  refine XS.icmpNo X21.here hx rfl (hb hby Dh) rfl (tlt (by decide : (2 : Int32) < (3 : Int32))).2.1 ?_
  refine Va X21 hx hby Im rfl rfl ?_
  refine Wa X21 hx hby Km rfl ?_
  refine Va X21 hx hby Lm rfl rfl ?_
  refine Pa X21 hx hby Mm rfl ?_
  show Za p e below m T21 19 #[vr t0, vi 2, vi 3, vr b10, vi 2] [(.int 2), (.ref t0), (.int 2), (.ref b10)] t
  refine X21.caload hx (j := 2) (v := (.int c2)) (by exact Ar23.1) (State.isArrayOf_alike hZ.alike Ar23.2.1) Ar23.2.2 hin24 hat25 (g := (mkF m 19 #[vr t0, vi 2, vi 3, vr b10, vi 2] [(.int 2), (.ref t0), (.int 2), (.ref b10)])) rfl rfl (hb hby Pm) _ ?_
  refine st26 _ ?_
  refine XS.iinc X26.here hx rfl (hb hby Um) rfl (l' := #[vr t0, vi ((2 : Int32) + (1 : Int32)), vi 3, vr b10, vi 2]) rfl ?_
  rw [Lv]
  refine XS.iinc X26.here hx rfl (hb hby Wm) rfl (l' := #[vr t0, vi 3, vi 3, vr b10, vi ((2 : Int32) + (1 : Int32))]) rfl ?_
  rw [Lv]
  refine XS.goto X26.here hx rfl (pc0 := 29) (pc' := 8) rfl (hb hby Ym) (by decide) (by decide) ?_
  refine Wa X26 hx hby Vh rfl ?_
  refine Pa X26 hx hby Bh rfl ?_
  refine XS.icmpYes X26.here hx rfl (pc0 := 11) (pc' := 32) rfl (hb hby Dh) rfl (flt (by decide : ¬ ((3 : Int32) < (3 : Int32)))).2.1 (by decide) (by decide) ?_
  refine Va X26 hx hby D7 rfl rfl ?_
  exact k
 exact Zb (.ref b10) hNG hlk hret X26 rfl (by decide) (by decide) (fun fs hr => k27 _ (retOut X26 hx (t := (.array .byte)) hret rfl (Or.inr (Or.inr (Or.inr (Or.inr ⟨rfl, rfl, rfl⟩)))) (hb hby G7) hr)) ⟨b10, k10, rfl, N26, O26, K26, g_b10, s_b10, F26_0⟩
theorem U6a (l : Launch) (Z : State) (a0 : Array Value) (hw : Pb a0 Z) (ws : List Jvm.Cond) (q0 : Addr) (k0 : ClassId) (x0 x1 x2 x3 x4 x5 : Int32) (Ra Ya Ia Ua Ka Ga Ma : Addr) (Da : Int32) (Aa : Value) (h0 : Heap) (n0 : Nat) (O0 : Old Z n0 h0) (hE : EV Z Ra Ya Ia Ua Ka Ga Ma Da Aa) (P0 : Arv Z h0 q0 k0 .byte (6 : Int32) [(.int x0), (.int x1), (.int x2), (.int x3), (.int x4), (.int x5)] (.int 0)) :
   Ib l W0a (Jvm.Cond.code W0a jdk_52_method_5_code 2 (some .char) :: ws) (Hb 0 0 0 0) #[(.ref q0), (.int 1)] Z h0 (fun v h L => v = some (.int ((((x2 &&& (255 : Int32)) <<< ((0 : Int32) &&& 31)) ||| ((x3 &&& (255 : Int32)) <<< ((8 : Int32) &&& 31))).toUInt32.toUInt16.toUInt32.toInt32)) ∧ Fr n0 L ∧ h = h0) := by
 refine Db (plainFor_of_name Bb) n0 [] fun p e s m below meth c s₁ hx hby hml hown hnm hret hlk X00 e00 hZ N00 K00 hNG => ?_
 have k00 : Ab p e below m s₁ #[(.ref q0), (.int 1)] 2 s₁ 0 #[vr q0, vi 1] [] := fun t k => castTop (Pwa m q0 (1 : Int32) ) k
 obtain ⟨_, _, _, _, _, _, _, _, _, _, _, _, _, _, _, _, _, _, Dc, Id, Kd, _⟩ := id hE
 obtain ⟨T10, X10, e10, st10⟩ := getS2 X00 hx hZ hown (host := "") (Or.inl (Ba hw 117 rfl)) Via.refl e00 (Dc.ext O0.2) (g := (mkF m 0 #[vr q0, vi 1] [])) rfl (hb hby Yaa)
 obtain ⟨cl11, Ar11, q11, Sz11, Nn11, Hs11, Gf11⟩ := id P0
 have hin12 := inb_of (j := 2) Sz11 ⟨by decide, by decide⟩
 have hat13 : cl11.slots[((2 : Int32)).toNatClampNeg]? = some (.int x2) := Hs11.at hin12 rfl
 obtain ⟨T14, X14, e14, st14⟩ := getS2 X10 hx hZ hown (host := "") (Or.inl (Ba hw 118 rfl)) Via.refl e10 (Id.ext O0.2) (g := (mkF m 42 #[vr q0, vi 3] [(.int (x2 &&& (255 : Int32)))])) rfl (hb hby Aaa)
 obtain ⟨cl15, Ar15, q15, Sz15, Nn15, Hs15, Gf15⟩ := id P0
 have hin16 := inb_of (j := 3) Sz15 ⟨by decide, by decide⟩
 have hat17 : cl15.slots[((3 : Int32)).toNatClampNeg]? = some (.int x3) := Hs15.at hin16 rfl
 obtain ⟨T18, X18, e18, st18⟩ := getS2 X14 hx hZ hown (host := "") (Or.inl (Ba hw 119 rfl)) Via.refl e14 (Kd.ext O0.2) (g := (mkF m 53 #[vr q0, vi 3] [(.int (x3 &&& (255 : Int32))), (.int ((x2 &&& (255 : Int32)) <<< ((0 : Int32) &&& 31)))])) rfl (hb hby Laa)
 have k19 : Ab p e below m s₁ #[(.ref q0), (.int 1)] 2 T18 59 #[vr q0, vi 3] [(.int ((((x2 &&& (255 : Int32)) <<< ((0 : Int32) &&& 31)) ||| ((x3 &&& (255 : Int32)) <<< ((8 : Int32) &&& 31))).toUInt32.toUInt16.toUInt32.toInt32))] := by
  intro t k
  refine k00 t ?_
  refine st10 _ ?_
  refine XS.ifYes X10.here hx rfl (pc0 := 3) (pc' := 28) rfl (hb hby Zaa) rfl ((if0 _ _).trans (feq (by decide : ¬ ((1 : Int32) = (0 : Int32)))).2) (by decide) (by decide) ?_
  refine Pa X10 hx hby K9 rfl ?_
  refine XS.iconst X10.here hx rfl (hb hby L9) ?_
  refine XS.ishl X10.here hx rfl (hb hby M9) rfl ?_
  show Za p e below m T10 31 #[vr q0, vi 1] [(.int ((1 : Int32) <<< ((1 : Int32) &&& 31)))] t
  rw [Kwa]
  refine XS.istoreN X10.here hx rfl (hb hby P9) rfl (l' := #[vr q0, vi 2]) rfl ?_
  refine Va X10 hx hby R9 rfl rfl ?_
  refine Pa X10 hx hby U9 rfl ?_
  refine XS.iinc X10.here hx rfl (hb hby V9) rfl (l' := #[vr q0, vi ((2 : Int32) + (1 : Int32))]) rfl ?_
  rw [Lv]
  refine X10.baloadBytes hx (j := 2) (v := (.int x2)) (by rw [e10]; exact Ar11.1) (State.isArrayOf_alike hZ.alike Ar11.2.1) Ar11.2.2 hin12 hat13 (g := (mkF m 37 #[vr q0, vi 3] [(.int 2), (.ref q0)])) rfl rfl (hb hby W9) _ ?_
  refine XS.sipush X10.here hx rfl (hb hby Y9) ?_
  refine XS.iand X10.here hx rfl (hb hby Z9) rfl ?_
  refine st14 _ ?_
  refine XS.ishl X14.here hx rfl (hb hby Baa) rfl ?_
  refine Va X14 hx hby Daa rfl rfl ?_
  refine Pa X14 hx hby Gaa rfl ?_
  show Za p e below m T14 48 #[vr q0, vi 3] [(.int 3), (.ref q0), (.int ((x2 &&& (255 : Int32)) <<< ((0 : Int32) &&& 31)))] t
  refine X14.baloadBytes hx (j := 3) (v := (.int x3)) (by rw [e14]; exact Ar15.1) (State.isArrayOf_alike hZ.alike Ar15.2.1) Ar15.2.2 hin16 hat17 (g := (mkF m 48 #[vr q0, vi 3] [(.int 3), (.ref q0), (.int ((x2 &&& (255 : Int32)) <<< ((0 : Int32) &&& 31)))])) rfl rfl (hb hby Haa) _ ?_
  refine XS.sipush X14.here hx rfl (hb hby Iaa) ?_
  refine XS.iand X14.here hx rfl (hb hby Kaa) rfl ?_
  refine st18 _ ?_
  refine XS.ishl X18.here hx rfl (hb hby Maa) rfl ?_
  refine XS.ior X18.here hx rfl (hb hby Paa) rfl ?_
  refine XS.i2c X18.here hx rfl (hb hby Raa) rfl ?_
  exact k
 exact Zb (.int ((((x2 &&& (255 : Int32)) <<< ((0 : Int32) &&& 31)) ||| ((x3 &&& (255 : Int32)) <<< ((8 : Int32) &&& 31))).toUInt32.toUInt16.toUInt32.toInt32)) hNG hlk hret X18 e18 (by decide) (by decide) (fun fs hr => k19 _ (retN X18 hx (t := .char) hret (by simp) (hb hby Uaa) (by rw [I6]; exact hr))) ⟨rfl, N00, rfl⟩
theorem V6a (l : Launch) (Z : State) (a0 : Array Value) (hw : Pb a0 Z) (ws : List Jvm.Cond) (t0 : Addr) (k0 : ClassId) (c0 c1 c2 : Int32) (Ra Ya Ia Ua Ka Ga Ma : Addr) (Da : Int32) (Aa : Value) (h0 : Heap) (n0 : Nat) (O0 : Old Z n0 h0) (hE : EV Z Ra Ya Ia Ua Ka Ga Ma Da Aa) (P0 : Arv Z h0 t0 k0 .char (3 : Int32) [(.int c0), (.int c1), (.int c2)] (.int 0)) (l0 : ¬ ((255 : Int32) < c0)) (g1 : (255 : Int32) < c1) (lo0 : ¬ c0 < 0) (hi0 : ¬ (65535 : Int32) < c0) (lo1 : ¬ c1 < 0) (hi1 : ¬ (65535 : Int32) < c1) (lo2 : ¬ c2 < 0) (hi2 : ¬ (65535 : Int32) < c2) :
   Ib l Mwa (Jvm.Cond.code Mwa jdk_52_method_16_code 6 (some (.array .byte)) :: ws) (Hb 3 2 9 40) #[(.ref t0), (.int 0), (.int 3)] Z h0 (fun v h L => ∃ (b : Addr) (k : ClassId), v = some (.ref b) ∧ Fr n0 L ∧ Old Z n0 h ∧ Keep h0 h [] ∧ n0 ≤ b ∧ h0.size ≤ b ∧ Arv Z h b k .byte (6 : Int32) [(.int ((c0 >>> ((0 : Int32) &&& 31)).toInt8.toInt32)), (.int ((c0 >>> ((8 : Int32) &&& 31)).toInt8.toInt32)), (.int ((c1 >>> ((0 : Int32) &&& 31)).toInt8.toInt32)), (.int ((c1 >>> ((8 : Int32) &&& 31)).toInt8.toInt32)), (.int ((c2 >>> ((0 : Int32) &&& 31)).toInt8.toInt32)), (.int ((c2 >>> ((8 : Int32) &&& 31)).toInt8.toInt32))] (.int 0)) := by
 refine Db (plainFor_of_name Bb) n0 [] fun p e s m below meth c s₁ hx hby hml hown hnm hret hlk X00 e00 hZ N00 K00 hNG => ?_
 have k00 : Ab p e below m s₁ #[(.ref t0), (.int 0), (.int 3)] 6 s₁ 0 #[vr t0, vi 0, vi 3, .unset, .unset, .unset] [] := fun t k => castTop (D0a m t0 (0 : Int32) (3 : Int32) ) k
 obtain ⟨T10, h10, c10, X10, e10, E10, A10, Ex10, st10⟩ := newPE X00 hx hZ (Ba hw 10 rfl) e00 (g := (mkF m 1 #[vr t0, vi 0, vi 3, .unset, .unset, .unset] [(.int 3)])) rfl (hb hby L1) rfl (by decide) (cap := 3) (by decide) (by decide) (by decide) (by decide) (ad := "[B") (by decide)
 obtain ⟨b10, g10⟩ : ∃ z, z = h0.size := ⟨_, rfl⟩
 rw [← g10] at A10 st10 Ex10
 have O10 := O0.ext E10
 have g_b10 : n0 ≤ b10 := Nat.le_trans (Nat.le_of_eq O0.1.symm) (Nat.le_trans O0.2.1 (Nat.le_of_eq g10.symm))
 have s_b10 : h0.size ≤ b10 := Nat.le_trans K00.1 (Nat.le_of_eq g10.symm)
 have K10 := K00.ext E10
 have V10 : Arv Z h10 b10 c10 .byte (3 : Int32) [(.int 0), (.int 0), (.int 0)] (.int 0) := (Arv.new A10 (by decide)).pad (pad_rep [] (.int 0) 3)
 have lt_b10 := V10.lt
 have ne11 : ¬ (t0 = b10) := (Nat.ne_of_lt (Nat.lt_of_lt_of_le P0.lt (Nat.le_of_eq g10.symm)))
 have f12 := (P0.ext E10)
 obtain ⟨v13, T13, Lc13, X13, hQ13, st13⟩ := Ub X10 hx hZ hown (P6a l Z a0 hw [] t0 b10 k0 c10 c0 c1 c2 _ _ _ _ _ _ _ _ _ h10 n0 O10 hE f12 V10 g_b10 ne11 l0 g1 lo0 hi0 lo1 hi1 lo2 hi2) (Ba hw 168 rfl) (Ba hw 169 rfl) (Ba hw 87 rfl) (Ba hw 170 rfl) e10 (g := (mkF m 9 #[vr t0, vi 0, vi 3, vr b10, .unset, .unset] [(.int 3), (.int 0), (.ref b10), (.int 0), (.ref t0)])) rfl (by rw [hml]; rfl) (argsL := [(.ref t0), (.int 0), (.ref b10), (.int 0), (.int 3)]) (rest := []) rfl (lenOf Zka rfl) rfl (W := 0) (by show 2 * 0 + _ ≤ _; exact Nat.le_of_eq rfl) (hb hby Z1) (by decide) (by decide) (by decide) (by decide) (by decide)
 obtain ⟨rfl, N13q, O13, Kc13, F13_0⟩ := hQ13
 have N13 := Fr.app N00 N13q
 have K13 := K10.trans Kc13 (allS (Or.inr s_b10) all0)
 have f14 := (f12.keep Kc13 (fun q => ne11 (List.mem_singleton.mp q)))
 obtain ⟨v15, T15, Lc15, X15, hQ15, st15⟩ := Ub X13 hx hZ hown (R6a l Z a0 hw [] t0 k0 c0 c1 c2 _ _ _ _ _ _ _ _ _ T13.heap n0 O13 hE f14 ) (Ba hw 171 rfl) (Ba hw 172 rfl) (Ba hw 87 rfl) (Ba hw 173 rfl) rfl (g := (mkF m 23 #[vr t0, vi 0, vi 3, vr b10, vi 1, .unset] [(.int 3), (.int 0), (.ref t0)])) rfl (by rw [hml]; rfl) (argsL := [(.ref t0), (.int 0), (.int 3)]) (rest := []) rfl (lenOf Gba rfl) rfl (W := 0) (by show 2 * 0 + _ ≤ _; exact Nat.le_of_eq rfl) (hb hby L7) (by decide) (by decide) (by decide) (by decide) (by decide)
 obtain ⟨b15, k15, rfl, N15q, O15, Kc15, g_b15, gs_b15, F15_0⟩ := hQ15
 have N15 := Fr.app N13 N15q
 have K15 := K13.trans Kc15 (fun x hx => nomatch hx)
 have s_b15 := Nat.le_trans K13.1 gs_b15
 have lt_b15 := F15_0.lt
 obtain ⟨v16, T16, Lc16, X16, hQ16, st16⟩ := Ub X15 hx hZ hown (U6a l Z a0 hw [] b15 k15 ((c0 >>> ((0 : Int32) &&& 31)).toInt8.toInt32) ((c0 >>> ((8 : Int32) &&& 31)).toInt8.toInt32) ((c1 >>> ((0 : Int32) &&& 31)).toInt8.toInt32) ((c1 >>> ((8 : Int32) &&& 31)).toInt8.toInt32) ((c2 >>> ((0 : Int32) &&& 31)).toInt8.toInt32) ((c2 >>> ((8 : Int32) &&& 31)).toInt8.toInt32) _ _ _ _ _ _ _ _ _ T15.heap n0 O15 hE F15_0 ) (Ba hw 175 rfl) (Ba hw 176 rfl) (Ba hw 87 rfl) (Ba hw 177 rfl) rfl (g := (mkF m 32 #[vr t0, vi 0, vi 3, vr b10, vi 1, vr b15] [(.int 1), (.ref b15)])) rfl (by rw [hml]; rfl) (argsL := [(.ref b15), (.int 1)]) (rest := []) rfl (lenOf I1a rfl) rfl (W := 0) (by show 2 * 0 + _ ≤ _; exact Nat.le_of_eq rfl) (hb hby V7) (by decide) (by decide) (by decide) (by decide) (by decide)
 obtain ⟨rfl, N16q, hp16⟩ := hQ16
 have N16 := Fr.app N15 N16q
 have k17 : Ab p e below m s₁ #[(.ref t0), (.int 0), (.int 3)] 6 T16 56 #[vr t0, vi 0, vi 3, vr b10, vi 1, vr b15] [(.ref b15)] := by
  intro t k
  refine k00 t ?_
  refine Pa X00 hx hby K1 rfl ?_
  refine st10 _ ?_
  refine XS.astoreN X10.here hx rfl (hb hby M1) rfl rfl (l' := #[vr t0, vi 0, vi 3, vr b10, .unset, .unset]) rfl ?_
  refine Va X10 hx hby R1 rfl rfl ?_
  refine Pa X10 hx hby U1 rfl ?_
  refine Va X10 hx hby V1 rfl rfl ?_
  refine XS.iconst X10.here hx rfl (hb hby W1) ?_
  refine Pa X10 hx hby Y1 rfl ?_
  refine st13 _ ?_
  refine XS.istore X13.here hx rfl (hb hby Hx) rfl (l' := #[vr t0, vi 0, vi 3, vr b10, vi 1, .unset]) rfl ?_
  refine Wa X13 hx hby Ix rfl ?_
  refine Pa X13 hx hby Kx rfl ?_
  show Za p e below m T13 17 #[vr t0, vi 0, vi 3, vr b10, vi 1, .unset] [(.int 3), (.int 1)] t
  refine XS.icmpNo X13.here hx rfl (hb hby Lx) rfl (feq (by decide : ¬ ((1 : Int32) = (3 : Int32)))).1 ?_
  refine Va X13 hx hby H7 rfl rfl ?_
  refine Pa X13 hx hby I7 rfl ?_
  refine Pa X13 hx hby K7 rfl ?_
  refine st15 _ ?_
  refine XS.astore X15.here hx rfl (hb hby M7) rfl rfl (l' := #[vr t0, vi 0, vi 3, vr b10, vi 1, vr b15]) rfl ?_
  refine Dd X15 hx hby R7 rfl rfl ?_
  refine Wa X15 hx hby U7 rfl ?_
  refine st16 _ ?_
  refine XS.sipush X16.here hx rfl (hb hby W7) ?_
  refine XS.icmpYes X16.here hx rfl (pc0 := 38) (pc' := 54) rfl (hb hby Y7) rfl (tlt (by rw [P1a lo1 hi1]; exact g1)).2.2.1 (by decide) (by decide) ?_
  refine Dd X16 hx hby Z7 rfl rfl ?_
  show Za p e below m T16 56 #[vr t0, vi 0, vi 3, vr b10, vi 1, vr b15] [(.ref b15)] t
  exact k
 exact Zb (.ref b15) hNG hlk hret X16 hp16 (by decide) (by decide) (fun fs hr => k17 _ (retOut X16 hx (t := (.array .byte)) hret rfl (Or.inr (Or.inr (Or.inr (Or.inr ⟨rfl, rfl, rfl⟩)))) (hb hby A8) hr)) ⟨b15, k15, rfl, N16, O15, K15, g_b15, s_b15, F15_0⟩
theorem M8a : ((3 : Int32) - (6 : Int32)) = (-3 : Int32) := by decide
theorem P8a : (((-3 : Int32).toUInt32 >>> ((31 : Int32) &&& 31).toUInt32).toInt32) = (1 : Int32) := by decide
theorem W6a (l : Launch) (Z : State) (a0 : Array Value) (hw : Pb a0 Z) (ws : List Jvm.Cond) (q0 : Addr) (k0 : ClassId) (x0 x1 x2 x3 x4 x5 : Int32) (Ra Ya Ia Ua Ka Ga Ma : Addr) (Da : Int32) (Aa : Value) (h0 : Heap) (n0 : Nat) (O0 : Old Z n0 h0) (hE : EV Z Ra Ya Ia Ua Ka Ga Ma Da Aa) (P0 : Arv Z h0 q0 k0 .byte (6 : Int32) [(.int x0), (.int x1), (.int x2), (.int x3), (.int x4), (.int x5)] (.int 0)) :
   Ib l Rwa (Jvm.Cond.code Rwa jdk_52_method_15_code 2 (some .byte) :: ws) (Hb 0 0 0 0) #[(.ref q0), (.int 3)] Z h0 (fun v h L => v = some (.int 1) ∧ Fr n0 L ∧ h = h0) := by
 refine Db (plainFor_of_name Bb) n0 [] fun p e s m below meth c s₁ hx hby hml hown hnm hret hlk X00 e00 hZ N00 K00 hNG => ?_
 have k00 : Ab p e below m s₁ #[(.ref q0), (.int 3)] 2 s₁ 0 #[vr q0, vi 3] [] := fun t k => castTop (Pwa m q0 (3 : Int32) ) k
 obtain ⟨cl10, Ar10, q10, Sz10, Nn10, Hs10, Gf10⟩ := id P0
 have k11 : Ab p e below m s₁ #[(.ref q0), (.int 3)] 2 s₁ 8 #[vr q0, vi 3] [(.int 1)] := by
  intro t k
  refine k00 t ?_
  refine Pa X00 hx hby A2 rfl ?_
  refine Va X00 hx hby B2 rfl rfl ?_
  refine X00.arraylength hx (by rw [e00]; exact Ar10.1) (State.isArrayOf_alike hZ.alike Ar10.2.1) (g := (mkF m 2 #[vr q0, vi 3] [(.ref q0), (.int 3)])) rfl rfl (hb hby D2) _ ?_
  rw [len_of Sz10 Nn10]
  refine XS.isub X00.here hx rfl (hb hby G2) rfl ?_
  show Za p e below m s₁ 4 #[vr q0, vi 3] [(.int ((3 : Int32) - (6 : Int32)))] t
  rw [M8a]
  refine XS.bipush X00.here hx rfl (hb hby H2) ?_
  refine XS.iushr X00.here hx rfl (hb hby I2) rfl ?_
  show Za p e below m s₁ 7 #[vr q0, vi 3] [(.int (((-3 : Int32).toUInt32 >>> ((31 : Int32) &&& 31).toUInt32).toInt32))] t
  rw [P8a]
  refine XS.i2b X00.here hx rfl (hb hby K2) rfl ?_
  show Za p e below m s₁ 8 #[vr q0, vi 3] [(.int ((1 : Int32).toInt8.toInt32))] t
  rw [P2a]
  exact k
 exact Zb (.int 1) hNG hlk hret X00 e00 (by decide) (by decide) (fun fs hr => k11 _ (retN X00 hx (t := .byte) hret (by simp) (hb hby L2) (by first | exact hr | (rw [show nar .byte (1 : Int32) = (1 : Int32) from by first | rfl | exact I6 _ | decide]; exact hr)))) ⟨rfl, N00, rfl⟩
theorem Y6a (l : Launch) (Z : State) (a0 : Array Value) (hw : Pb a0 Z) (ws : List Jvm.Cond) (a1 t0 : Addr) (k0 : ClassId) (c0 c1 c2 : Int32) (Ra Ya Ia Ua Ka Ga Ma : Addr) (Da : Int32) (Aa : Value) (h0 : Heap) (n0 : Nat) (O0 : Old Z n0 h0) (hE : EV Z Ra Ya Ia Ua Ka Ga Ma Da Aa) (P0 : Arv Z h0 t0 k0 .char (3 : Int32) [(.int c0), (.int c1), (.int c2)] (.int 0)) (P1 : Exa Z h0 a1 "java/lang/String") (P2 : Fld Z h0 a1 "java/lang/String" "value" "[B" .null) (P3 : Fld Z h0 a1 "java/lang/String" "coder" "B" (.int 0)) (g_a1 : n0 ≤ a1) (na : ¬ (t0 = a1)) (l0 : ¬ ((255 : Int32) < c0)) (g1 : (255 : Int32) < c1) (lo0 : ¬ c0 < 0) (hi0 : ¬ (65535 : Int32) < c0) (lo1 : ¬ c1 < 0) (hi1 : ¬ (65535 : Int32) < c1) (lo2 : ¬ c2 < 0) (hi2 : ¬ (65535 : Int32) < c2) :
   Ib l Uwa (Jvm.Cond.code Uwa jdk_42_method_149_code 6 none :: ws) (Hb 4 2 9 57) #[(.ref a1), (.ref t0), (.int 0), (.int 3), .null] Z h0 (fun v h L => ∃ (b : Addr) (k : ClassId), v = none ∧ Fr n0 L ∧ Old Z n0 h ∧ Keep h0 h [a1] ∧ n0 ≤ b ∧ h0.size ≤ b ∧ Exa Z h a1 "java/lang/String" ∧ Fld Z h a1 "java/lang/String" "coder" "B" (.int 1) ∧ Fld Z h a1 "java/lang/String" "value" "[B" (.ref b) ∧ Arv Z h b k .byte (6 : Int32) [(.int ((c0 >>> ((0 : Int32) &&& 31)).toInt8.toInt32)), (.int ((c0 >>> ((8 : Int32) &&& 31)).toInt8.toInt32)), (.int ((c1 >>> ((0 : Int32) &&& 31)).toInt8.toInt32)), (.int ((c1 >>> ((8 : Int32) &&& 31)).toInt8.toInt32)), (.int ((c2 >>> ((0 : Int32) &&& 31)).toInt8.toInt32)), (.int ((c2 >>> ((8 : Int32) &&& 31)).toInt8.toInt32))] (.int 0)) := by
 refine Db (plainFor_of_name Mb) n0 [a1] fun p e s m below meth c s₁ hx hby hml hown hnm hret hlk X00 e00 hZ N00 K00 hNG => ?_
 have k00 : Ab p e below m s₁ #[(.ref a1), (.ref t0), (.int 0), (.int 3), .null] 6 s₁ 0 #[vr a1, vr t0, vi 0, vi 3, .val .null, .unset] [] := fun t k => castTop (Bxa m a1 t0 (0 : Int32) (3 : Int32) ) k
 obtain ⟨_, _, _, _, _, _, _, _, _, _, _, _, _, _, Vc, Mc, _⟩ := id hE
 obtain ⟨T10, X10, e10, st10⟩ := initO X00 hx hZ hown (Ba hw 64 rfl) (Ba hw 26 rfl) (Ba hw 27 rfl) e00 (g := (mkF m 1 #[vr a1, vr t0, vi 0, vi 3, .val .null, .unset] [(.ref a1)])) rfl (by rw [hml]; rfl) rfl (hb hby Px) (by decide) (W := 0) (by show 2 * 0 + _ ≤ _; exact Nat.le_of_eq rfl) (by decide)
 obtain ⟨T11, X11, e11, st11⟩ := getS2 X10 hx hZ hown (host := "") (Or.inl (Ba hw 67 rfl)) Via.refl e10 (Vc.ext O0.2) (g := (mkF m 27 #[vr a1, vr t0, vi 0, vi 3, .val .null, .unset] [])) rfl (hb hby Pv)
 obtain ⟨v12, T12, Lc12, X12, hQ12, st12⟩ := Ub X11 hx hZ hown (V6a l Z a0 hw [] t0 k0 c0 c1 c2 _ _ _ _ _ _ _ _ _ h0 n0 O0 hE P0 l0 g1 lo0 hi0 lo1 hi1 lo2 hi2) (Ba hw 165 rfl) (Ba hw 166 rfl) (Ba hw 87 rfl) (Ba hw 167 rfl) e11 (g := (mkF m 36 #[vr a1, vr t0, vi 0, vi 3, .val .null, .unset] [(.int 3), (.int 0), (.ref t0)])) rfl (by rw [hml]; rfl) (argsL := [(.ref t0), (.int 0), (.int 3)]) (rest := []) rfl (lenOf Gba rfl) rfl (W := 0) (by show 2 * 0 + _ ≤ _; exact Nat.le_of_eq rfl) (hb hby Yv) (by decide) (by decide) (by decide) (by decide) (by decide)
 obtain ⟨b12, k12, rfl, N12q, O12, Kc12, g_b12, gs_b12, F12_0⟩ := hQ12
 have N12 := Fr.app N00 N12q
 have K12 := K00.trans Kc12 (fun x hx => nomatch hx)
 have s_b12 := Nat.le_trans K00.1 gs_b12
 have lt_b12 := F12_0.lt
 obtain ⟨v13, T13, Lc13, X13, hQ13, st13⟩ := Ub X12 hx hZ hown (W6a l Z a0 hw [] b12 k12 ((c0 >>> ((0 : Int32) &&& 31)).toInt8.toInt32) ((c0 >>> ((8 : Int32) &&& 31)).toInt8.toInt32) ((c1 >>> ((0 : Int32) &&& 31)).toInt8.toInt32) ((c1 >>> ((8 : Int32) &&& 31)).toInt8.toInt32) ((c2 >>> ((0 : Int32) &&& 31)).toInt8.toInt32) ((c2 >>> ((8 : Int32) &&& 31)).toInt8.toInt32) _ _ _ _ _ _ _ _ _ T12.heap n0 O12 hE F12_0 ) (Ba hw 178 rfl) (Ba hw 179 rfl) (Ba hw 87 rfl) (Ba hw 180 rfl) rfl (g := (mkF m 45 #[vr a1, vr t0, vi 0, vi 3, .val .null, vr b12] [(.int 3), (.ref b12), (.ref a1)])) rfl (by rw [hml]; rfl) (argsL := [(.ref b12), (.int 3)]) (rest := [(.ref a1)]) rfl (lenOf Vxa rfl) rfl (W := 1) (by show 2 * 0 + _ ≤ _; exact Nat.le_of_eq rfl) (hb hby Gw) (by decide) (by decide) (by decide) (by decide) (by decide)
 obtain ⟨rfl, N13q, hp13⟩ := hQ13
 have N13 := Fr.app N12 N13q
 have f14 := (P1.keep Kc12)
 have f15 := (P3.keep Kc12 List.not_mem_nil)
 obtain ⟨T16, h16, X16, e16, W16, st16⟩ := putFN X13 hx hZ hown (Ba hw 157 rfl) Via.refl hp13 f15 f14 (Or.inr ⟨(Ba hw 32 rfl), rfl, hnm⟩) (Ba hw 30 rfl) (ty := .byte) (v' := .int (1 : Int32)) (by decide) rfl (by decide) (g := (mkF m 48 #[vr a1, vr t0, vi 0, vi 3, .val .null, vr b12] [(.int 1), (.ref a1)])) rfl rfl (hb hby Hw)
 have F16_coder := f15.same W16
 have N16 := Fr.snoc X16 N13 g_a1
 have O16 := O12.wr W16 g_a1
 have K16 := K12.wr W16 (Or.inl (List.mem_of_getElem? (i := 0) rfl))
 have f17 := (f14.wr W16)
 have f18 := ((P2.keep Kc12 List.not_mem_nil).other W16 (Or.inr (slot_ne (Or.inr (Ba hw 31 rfl)) (Or.inr (Ba hw 32 rfl)) (by decide) (t := (.array .byte)) (t' := .byte) (by decide) (by decide))))
 obtain ⟨T19, h19, X19, e19, W19, st19⟩ := putF X16 hx hZ hown (host := "") (Or.inl (Ba hw 156 rfl)) Via.refl e16 f18 f17 (Or.inr ⟨(Ba hw 31 rfl), rfl, hnm⟩) (Ba hw 30 rfl) (ty := (.array .byte)) (by decide) rfl rfl (g := (mkF m 54 #[vr a1, vr t0, vi 0, vi 3, .val .null, vr b12] [(.ref b12), (.ref a1)])) rfl rfl (hb hby Lw)
 have F19_value := f18.same W19
 have N19 := Fr.snoc X19 N16 g_a1
 have O19 := O16.wr W19 g_a1
 have K19 := K16.wr W19 (Or.inl (List.mem_of_getElem? (i := 0) rfl))
 have k20 : Ab p e below m s₁ #[(.ref a1), (.ref t0), (.int 0), (.int 3), .null] 6 T19 57 #[vr a1, vr t0, vi 0, vi 3, .val .null, vr b12] [] := by
  intro t k
  refine k00 t ?_
  refine Va X00 hx hby Mx rfl rfl ?_
  refine st10 _ ?_
  refine Pa X10 hx hby Rx rfl ?_
  refine XS.ifYes X10.here hx rfl (pc0 := 5) (pc' := 27) rfl (hb hby Ux) rfl ((if0 _ _).trans (feq (by decide : ¬ ((3 : Int32) = (0 : Int32)))).2) (by decide) (by decide) ?_
  refine st11 _ ?_
  refine XS.ifNo X11.here hx rfl (hb hby Rv) rfl ((if0 _ _).trans (feq Mc).1) ?_
  refine Va X11 hx hby Uv rfl rfl ?_
  refine Pa X11 hx hby Vv rfl ?_
  refine Pa X11 hx hby Wv rfl ?_
  refine st12 _ ?_
  refine XS.astore X12.here hx rfl (hb hby Zv) rfl rfl (l' := #[vr a1, vr t0, vi 0, vi 3, .val .null, vr b12]) rfl ?_
  refine Va X12 hx hby Aw rfl rfl ?_
  show Za p e below m T12 42 #[vr a1, vr t0, vi 0, vi 3, .val .null, vr b12] [(.ref a1)] t
  refine Dd X12 hx hby Bw rfl rfl ?_
  refine Pa X12 hx hby Dw rfl ?_
  refine st13 _ ?_
  refine st16 _ ?_
  refine Va X16 hx hby Iw rfl rfl ?_
  refine Dd X16 hx hby Kw rfl rfl ?_
  refine st19 _ ?_
  exact k
 have f21 := (f17.wr W19)
 have f22 := (F16_coder.other W19 (Or.inr (slot_ne (Or.inr (Ba hw 32 rfl)) (Or.inr (Ba hw 31 rfl)) (by decide) (t := .byte) (t' := (.array .byte)) (by decide) (by decide))))
 have ne23 : ¬ (b12 = a1) := (Ne.symm (Nat.ne_of_lt (Nat.lt_of_lt_of_le P1.lt gs_b12)))
 have f24 := ((F12_0.other W16 ne23).other W19 ne23)
 exact Yg hNG hlk X19 e19 (by decide) (by decide) (fun fs hr => k20 _ (X19.returnOut hx hret (hb hby Mw) hr)) ⟨b12, k12, rfl, N19, O19, K19, g_b12, s_b12, f21, f22, F19_value, f24⟩
theorem Z1a (l : Launch) (Z : State) (a0 : Array Value) (hw : Pb a0 Z) (ws : List Jvm.Cond) (a1 t0 : Addr) (k0 : ClassId) (c0 c1 c2 : Int32) (Ra Ya Ia Ua Ka Ga Ma : Addr) (Da : Int32) (Aa : Value) (h0 : Heap) (n0 : Nat) (O0 : Old Z n0 h0) (hE : EV Z Ra Ya Ia Ua Ka Ga Ma Da Aa) (P0 : Arv Z h0 t0 k0 .char (3 : Int32) [(.int c0), (.int c1), (.int c2)] (.int 0)) (P1 : Exa Z h0 a1 "java/lang/String") (P2 : Fld Z h0 a1 "java/lang/String" "value" "[B" .null) (P3 : Fld Z h0 a1 "java/lang/String" "coder" "B" (.int 0)) (g_a1 : n0 ≤ a1) (na : ¬ (t0 = a1)) (l0 : ¬ ((255 : Int32) < c0)) (g1 : (255 : Int32) < c1) (lo0 : ¬ c0 < 0) (hi0 : ¬ (65535 : Int32) < c0) (lo1 : ¬ c1 < 0) (hi1 : ¬ (65535 : Int32) < c1) (lo2 : ¬ c2 < 0) (hi2 : ¬ (65535 : Int32) < c2) :
   Ib l Vwa (Jvm.Cond.code Vwa jdk_42_method_3_code 2 none :: ws) (Hb 5 2 9 74) #[(.ref a1), (.ref t0)] Z h0 (fun v h L => ∃ (b : Addr) (k : ClassId), v = none ∧ Fr n0 L ∧ Old Z n0 h ∧ Keep h0 h [a1] ∧ n0 ≤ b ∧ h0.size ≤ b ∧ Exa Z h a1 "java/lang/String" ∧ Fld Z h a1 "java/lang/String" "coder" "B" (.int 1) ∧ Fld Z h a1 "java/lang/String" "value" "[B" (.ref b) ∧ Arv Z h b k .byte (6 : Int32) [(.int ((c0 >>> ((0 : Int32) &&& 31)).toInt8.toInt32)), (.int ((c0 >>> ((8 : Int32) &&& 31)).toInt8.toInt32)), (.int ((c1 >>> ((0 : Int32) &&& 31)).toInt8.toInt32)), (.int ((c1 >>> ((8 : Int32) &&& 31)).toInt8.toInt32)), (.int ((c2 >>> ((0 : Int32) &&& 31)).toInt8.toInt32)), (.int ((c2 >>> ((8 : Int32) &&& 31)).toInt8.toInt32))] (.int 0)) := by
 refine Db (plainFor_of_name Mb) n0 [a1] fun p e s m below meth c s₁ hx hby hml hown hnm hret hlk X00 e00 hZ N00 K00 hNG => ?_
 have k00 : Ab p e below m s₁ #[(.ref a1), (.ref t0)] 2 s₁ 0 #[vr a1, vr t0] [] := fun t k => castTop (Hza m a1 t0 ) k
 obtain ⟨cl10, Ar10, q10, Sz10, Nn10, Hs10, Gf10⟩ := id P0
 obtain ⟨v11, T11, Lc11, X11, hQ11, st11⟩ := G1 X00 hx hZ hown (a := a1) (Y6a l Z a0 hw [] a1 t0 k0 c0 c1 c2 _ _ _ _ _ _ _ _ _ h0 n0 O0 hE P0 P1 P2 P3 g_a1 na l0 g1 lo0 hi0 lo1 hi1 lo2 hi2) (Ba hw 162 rfl) (Ba hw 163 rfl) (Ba hw 29 rfl) (Ba hw 164 rfl) e00 (g := (mkF m 6 #[vr a1, vr t0] [.null, (.int 3), (.int 0), (.ref t0), (.ref a1)])) rfl (by rw [hml]; rfl) (argsL := [(.ref t0), (.int 0), (.int 3), .null]) (rest := []) rfl (lenOf Vx rfl) rfl (W := 0) (by show 2 * 0 + _ ≤ _; exact Nat.le_of_eq rfl) (hb hby V5) (by decide) (by decide) (by decide) (by decide) rfl (by decide)
 obtain ⟨b11, k11, rfl, N11q, O11, Kc11, g_b11, gs_b11, F11_0, F11_1, F11_2, F11_3⟩ := hQ11
 have N11 := Fr.app N00 N11q
 have K11 := K00.trans Kc11 (allS (Or.inl (List.mem_of_getElem? (i := 0) rfl)) all0)
 have s_b11 := Nat.le_trans K00.1 gs_b11
 have lt_b11 := F11_3.lt
 have k12 : Ab p e below m s₁ #[(.ref a1), (.ref t0)] 2 T11 9 #[vr a1, vr t0] [] := by
  intro t k
  refine k00 t ?_
  refine Va X00 hx hby I5 rfl rfl ?_
  refine Va X00 hx hby K5 rfl rfl ?_
  refine XS.iconst X00.here hx rfl (hb hby L5) ?_
  refine Va X00 hx hby M5 rfl rfl ?_
  refine X00.arraylength hx (by rw [e00]; exact Ar10.1) (State.isArrayOf_alike hZ.alike Ar10.2.1) (g := (mkF m 4 #[vr a1, vr t0] [(.ref t0), (.int 0), (.ref t0), (.ref a1)])) rfl rfl (hb hby R5) _ ?_
  rw [len_of Sz10 Nn10]
  refine XS.aconstNull X00.here hx rfl (hb hby U5) ?_
  refine st11 _ ?_
  exact k
 exact Yg hNG hlk X11 rfl (by decide) (by decide) (fun fs hr => k12 _ (X11.returnOut hx hret (hb hby W5) hr)) ⟨b11, k11, rfl, N11, O11, K11, g_b11, s_b11, F11_0, F11_1, F11_2, F11_3⟩
abbrev Ac : ByteArray := jdk_123_method_3_code
theorem Iu : decode Ac 0 = .ok (.iload_n 1, 1) := by decide +kernel
theorem Ku : decode Ac 1 = .ok (.iload_n 2, 1) := by decide +kernel
theorem Lu : decode Ac 2 = .ok (.iadd, 1) := by decide +kernel
theorem R2a : ((0 : Int32) + (2 : Int32)) = (2 : Int32) := by decide
theorem Mu : decode Ac 3 = .ok (.istore_n 3, 1) := by decide +kernel
theorem Pu : decode Ac 4 = .ok (.iload_n 1, 1) := by decide +kernel
theorem Ru : decode Ac 5 = .ok (.istore 4, 2) := by decide +kernel
theorem Dg : decode Ac 7 = .ok (.iload 4, 2) := by decide +kernel
theorem Gg : decode Ac 9 = .ok (.iload_n 3, 1) := by decide +kernel
theorem Wf : decode Ac 10 = .ok (.if_icmp .ge 21, 3) := by decide +kernel
theorem Pg : decode Ac 13 = .ok (.aload_n 0, 1) := by decide +kernel
theorem Rg : decode Ac 14 = .ok (.iload 4, 2) := by decide +kernel
theorem Ug : decode Ac 16 = .ok (.baload, 1) := by decide +kernel
theorem Vg : decode Ac 17 = .ok (.ifCond .ge 8, 3) := by decide +kernel
theorem Zm : decode Ac 25 = .ok (.iinc 4 1, 3) := by decide +kernel
theorem Bn : decode Ac 28 = .ok (.goto (-21), 3) := by decide +kernel
theorem Dla : decode Ac 31 = .ok (.iload_n 2, 1) := by decide +kernel
theorem Gla : decode Ac 32 = .ok (.ireturn, 1) := by decide +kernel
theorem Uu : plainName "java/lang/StringCoding" = true := by first | (simp [plainName, overriddenIn]; done) | decide +kernel
abbrev Iba : MethodName := ⟨"java/lang/StringCoding", "countPositives", "([BII)I"⟩
theorem Z6a (l : Launch) (Z : State) (a0 : Array Value) (hw : Pb a0 Z) (ws : List Jvm.Cond) (t0 : Addr) (k0 : ClassId) (b0 b1 : Int32) (Ra Ya Ia Ua Ka Ga Ma : Addr) (Da : Int32) (Aa : Value) (h0 : Heap) (n0 : Nat) (O0 : Old Z n0 h0) (hE : EV Z Ra Ya Ia Ua Ka Ga Ma Da Aa) (P0 : Arv Z h0 t0 k0 .byte (2 : Int32) [(.int b0), (.int b1)] (.int 0)) (m0 : ¬ (b0 < (0 : Int32))) (m1 : ¬ (b1 < (0 : Int32))) :
   Ib l Iba (Jvm.Cond.code Iba jdk_123_method_3_code 5 (some .int) :: ws) (Hb 0 0 0 0) #[(.ref t0), (.int 0), (.int 2)] Z h0 (fun v h L => v = some (.int 2) ∧ Fr n0 L ∧ h = h0) := by
 refine Db (plainFor_of_name Uu) n0 [] fun p e s m below meth c s₁ hx hby hml hown hnm hret hlk X00 e00 hZ N00 K00 hNG => ?_
 have k00 : Ab p e below m s₁ #[(.ref t0), (.int 0), (.int 2)] 5 s₁ 0 #[vr t0, vi 0, vi 2, .unset, .unset] [] := fun t k => castTop (Zba m t0 (0 : Int32) (2 : Int32) ) k
 obtain ⟨cl10, Ar10, q10, Sz10, Nn10, Hs10, Gf10⟩ := id P0
 have hin11 := inb_of (j := 0) Sz10 ⟨by decide, by decide⟩
 have hat12 : cl10.slots[((0 : Int32)).toNatClampNeg]? = some (.int b0) := Hs10.at hin11 rfl
 obtain ⟨cl13, Ar13, q13, Sz13, Nn13, Hs13, Gf13⟩ := id P0
 have hin14 := inb_of (j := 1) Sz13 ⟨by decide, by decide⟩
 have hat15 : cl13.slots[((1 : Int32)).toNatClampNeg]? = some (.int b1) := Hs13.at hin14 rfl
 have k16 : Ab p e below m s₁ #[(.ref t0), (.int 0), (.int 2)] 5 s₁ 32 #[vr t0, vi 0, vi 2, vi 2, vi 2] [(.int 2)] := by
  intro t k
  refine k00 t ?_
  refine Pa X00 hx hby Iu rfl ?_
  refine Pa X00 hx hby Ku rfl ?_
  refine XS.iadd X00.here hx rfl (hb hby Lu) rfl ?_
  show Za p e below m s₁ 3 #[vr t0, vi 0, vi 2, .unset, .unset] [(.int ((0 : Int32) + (2 : Int32)))] t
  rw [R2a]
  refine XS.istoreN X00.here hx rfl (hb hby Mu) rfl (l' := #[vr t0, vi 0, vi 2, vi 2, .unset]) rfl ?_
  refine Pa X00 hx hby Pu rfl ?_
  refine XS.istore X00.here hx rfl (hb hby Ru) rfl (l' := #[vr t0, vi 0, vi 2, vi 2, vi 0]) rfl ?_
  refine Wa X00 hx hby Dg rfl ?_
  refine Pa X00 hx hby Gg rfl ?_
  refine XS.icmpNo X00.here hx rfl (hb hby Wf) rfl (tlt (by decide : (0 : Int32) < (2 : Int32))).2.1 ?_
  refine Va X00 hx hby Pg rfl rfl ?_
  refine Wa X00 hx hby Rg rfl ?_
  refine X00.baloadBytes hx (j := 0) (v := (.int b0)) (by rw [e00]; exact Ar10.1) (State.isArrayOf_alike hZ.alike Ar10.2.1) Ar10.2.2 hin11 hat12 (g := (mkF m 16 #[vr t0, vi 0, vi 2, vi 2, vi 0] [(.int 0), (.ref t0)])) rfl rfl (hb hby Ug) _ ?_
  refine XS.ifYes X00.here hx rfl (pc0 := 17) (pc' := 25) rfl (hb hby Vg) rfl ((if0 _ _).trans (flt m0).2.1) (by decide) (by decide) ?_
  refine XS.iinc X00.here hx rfl (hb hby Zm) rfl (l' := #[vr t0, vi 0, vi 2, vi 2, vi ((0 : Int32) + (1 : Int32))]) rfl ?_
  rw [Mh]
  show Za p e below m s₁ 28 #[vr t0, vi 0, vi 2, vi 2, vi 1] [] t
  refine XS.goto X00.here hx rfl (pc0 := 28) (pc' := 7) rfl (hb hby Bn) (by decide) (by decide) ?_
  refine Wa X00 hx hby Dg rfl ?_
  refine Pa X00 hx hby Gg rfl ?_
  refine XS.icmpNo X00.here hx rfl (hb hby Wf) rfl (tlt (by decide : (1 : Int32) < (2 : Int32))).2.1 ?_
  refine Va X00 hx hby Pg rfl rfl ?_
  refine Wa X00 hx hby Rg rfl ?_
  refine X00.baloadBytes hx (j := 1) (v := (.int b1)) (by rw [e00]; exact Ar13.1) (State.isArrayOf_alike hZ.alike Ar13.2.1) Ar13.2.2 hin14 hat15 (g := (mkF m 16 #[vr t0, vi 0, vi 2, vi 2, vi 1] [(.int 1), (.ref t0)])) rfl rfl (hb hby Ug) _ ?_
  refine XS.ifYes X00.here hx rfl (pc0 := 17) (pc' := 25) rfl (hb hby Vg) rfl ((if0 _ _).trans (flt m1).2.1) (by decide) (by decide) ?_
  refine XS.iinc X00.here hx rfl (hb hby Zm) rfl (l' := #[vr t0, vi 0, vi 2, vi 2, vi ((1 : Int32) + (1 : Int32))]) rfl ?_
  rw [Hm]
  refine XS.goto X00.here hx rfl (pc0 := 28) (pc' := 7) rfl (hb hby Bn) (by decide) (by decide) ?_
  refine Wa X00 hx hby Dg rfl ?_
  refine Pa X00 hx hby Gg rfl ?_
  show Za p e below m s₁ 10 #[vr t0, vi 0, vi 2, vi 2, vi 2] [(.int 2), (.int 2)] t
  refine XS.icmpYes X00.here hx rfl (pc0 := 10) (pc' := 31) rfl (hb hby Wf) rfl (flt (by decide : ¬ ((2 : Int32) < (2 : Int32)))).2.1 (by decide) (by decide) ?_
  refine Pa X00 hx hby Dla rfl ?_
  exact k
 exact Zb (.int 2) hNG hlk hret X00 e00 (by decide) (by decide) (fun fs hr => k16 _ (retOut X00 hx (t := .int) hret rfl (Or.inl ⟨rfl, Or.inl rfl, _, rfl⟩) (hb hby Gla) hr)) ⟨rfl, N00, rfl⟩
theorem Iza : ((0 : Int32) + (3 : Int32)) = (3 : Int32) := by decide
theorem Wx : decode Ac 20 = .ok (.iload 4, 2) := by decide +kernel
theorem Yx : decode Ac 22 = .ok (.iload_n 1, 1) := by decide +kernel
theorem Zx : decode Ac 23 = .ok (.isub, 1) := by decide +kernel
theorem A1a : ((1 : Int32) - (0 : Int32)) = (1 : Int32) := by decide
theorem Ay : decode Ac 24 = .ok (.ireturn, 1) := by decide +kernel
theorem Wxa (l : Launch) (Z : State) (a0 : Array Value) (hw : Pb a0 Z) (ws : List Jvm.Cond) (t0 : Addr) (k0 : ClassId) (b0 b1 b2 : Int32) (Ra Ya Ia Ua Ka Ga Ma : Addr) (Da : Int32) (Aa : Value) (h0 : Heap) (n0 : Nat) (O0 : Old Z n0 h0) (hE : EV Z Ra Ya Ia Ua Ka Ga Ma Da Aa) (P0 : Arv Z h0 t0 k0 .byte (3 : Int32) [(.int b0), (.int b1), (.int b2)] (.int 0)) (m0 : ¬ (b0 < (0 : Int32))) (m1 : b1 < (0 : Int32)) :
   Ib l Iba (Jvm.Cond.code Iba jdk_123_method_3_code 5 (some .int) :: ws) (Hb 0 0 0 0) #[(.ref t0), (.int 0), (.int 3)] Z h0 (fun v h L => v = some (.int 1) ∧ Fr n0 L ∧ h = h0) := by
 refine Db (plainFor_of_name Uu) n0 [] fun p e s m below meth c s₁ hx hby hml hown hnm hret hlk X00 e00 hZ N00 K00 hNG => ?_
 have k00 : Ab p e below m s₁ #[(.ref t0), (.int 0), (.int 3)] 5 s₁ 0 #[vr t0, vi 0, vi 3, .unset, .unset] [] := fun t k => castTop (Zba m t0 (0 : Int32) (3 : Int32) ) k
 obtain ⟨cl10, Ar10, q10, Sz10, Nn10, Hs10, Gf10⟩ := id P0
 have hin11 := inb_of (j := 0) Sz10 ⟨by decide, by decide⟩
 have hat12 : cl10.slots[((0 : Int32)).toNatClampNeg]? = some (.int b0) := Hs10.at hin11 rfl
 obtain ⟨cl13, Ar13, q13, Sz13, Nn13, Hs13, Gf13⟩ := id P0
 have hin14 := inb_of (j := 1) Sz13 ⟨by decide, by decide⟩
 have hat15 : cl13.slots[((1 : Int32)).toNatClampNeg]? = some (.int b1) := Hs13.at hin14 rfl
 have k16 : Ab p e below m s₁ #[(.ref t0), (.int 0), (.int 3)] 5 s₁ 24 #[vr t0, vi 0, vi 3, vi 3, vi 1] [(.int 1)] := by
  intro t k
  refine k00 t ?_
  refine Pa X00 hx hby Iu rfl ?_
  refine Pa X00 hx hby Ku rfl ?_
  refine XS.iadd X00.here hx rfl (hb hby Lu) rfl ?_
  show Za p e below m s₁ 3 #[vr t0, vi 0, vi 3, .unset, .unset] [(.int ((0 : Int32) + (3 : Int32)))] t
  rw [Iza]
  refine XS.istoreN X00.here hx rfl (hb hby Mu) rfl (l' := #[vr t0, vi 0, vi 3, vi 3, .unset]) rfl ?_
  refine Pa X00 hx hby Pu rfl ?_
  refine XS.istore X00.here hx rfl (hb hby Ru) rfl (l' := #[vr t0, vi 0, vi 3, vi 3, vi 0]) rfl ?_
  refine Wa X00 hx hby Dg rfl ?_
  refine Pa X00 hx hby Gg rfl ?_
  refine XS.icmpNo X00.here hx rfl (hb hby Wf) rfl (tlt (by decide : (0 : Int32) < (3 : Int32))).2.1 ?_
  refine Va X00 hx hby Pg rfl rfl ?_
  refine Wa X00 hx hby Rg rfl ?_
  refine X00.baloadBytes hx (j := 0) (v := (.int b0)) (by rw [e00]; exact Ar10.1) (State.isArrayOf_alike hZ.alike Ar10.2.1) Ar10.2.2 hin11 hat12 (g := (mkF m 16 #[vr t0, vi 0, vi 3, vi 3, vi 0] [(.int 0), (.ref t0)])) rfl rfl (hb hby Ug) _ ?_
  refine XS.ifYes X00.here hx rfl (pc0 := 17) (pc' := 25) rfl (hb hby Vg) rfl ((if0 _ _).trans (flt m0).2.1) (by decide) (by decide) ?_
  refine XS.iinc X00.here hx rfl (hb hby Zm) rfl (l' := #[vr t0, vi 0, vi 3, vi 3, vi ((0 : Int32) + (1 : Int32))]) rfl ?_
  rw [Mh]
  show Za p e below m s₁ 28 #[vr t0, vi 0, vi 3, vi 3, vi 1] [] t
  refine XS.goto X00.here hx rfl (pc0 := 28) (pc' := 7) rfl (hb hby Bn) (by decide) (by decide) ?_
  refine Wa X00 hx hby Dg rfl ?_
  refine Pa X00 hx hby Gg rfl ?_
  refine XS.icmpNo X00.here hx rfl (hb hby Wf) rfl (tlt (by decide : (1 : Int32) < (3 : Int32))).2.1 ?_
  refine Va X00 hx hby Pg rfl rfl ?_
  refine Wa X00 hx hby Rg rfl ?_
  refine X00.baloadBytes hx (j := 1) (v := (.int b1)) (by rw [e00]; exact Ar13.1) (State.isArrayOf_alike hZ.alike Ar13.2.1) Ar13.2.2 hin14 hat15 (g := (mkF m 16 #[vr t0, vi 0, vi 3, vi 3, vi 1] [(.int 1), (.ref t0)])) rfl rfl (hb hby Ug) _ ?_
  refine XS.ifNo X00.here hx rfl (hb hby Vg) rfl ((if0 _ _).trans (tlt m1).2.1) ?_
  refine Wa X00 hx hby Wx rfl ?_
  refine Pa X00 hx hby Yx rfl ?_
  refine XS.isub X00.here hx rfl (hb hby Zx) rfl ?_
  show Za p e below m s₁ 24 #[vr t0, vi 0, vi 3, vi 3, vi 1] [(.int ((1 : Int32) - (0 : Int32)))] t
  rw [A1a]
  exact k
 exact Zb (.int 1) hNG hlk hret X00 e00 (by decide) (by decide) (fun fs hr => k16 _ (retOut X00 hx (t := .int) hret rfl (Or.inl ⟨rfl, Or.inl rfl, _, rfl⟩) (hb hby Ay) hr)) ⟨rfl, N00, rfl⟩
theorem U2a : ((0 : Int32) + (4 : Int32)) = (4 : Int32) := by decide
theorem A7a (l : Launch) (Z : State) (a0 : Array Value) (hw : Pb a0 Z) (ws : List Jvm.Cond) (t0 : Addr) (k0 : ClassId) (b0 b1 b2 b3 : Int32) (Ra Ya Ia Ua Ka Ga Ma : Addr) (Da : Int32) (Aa : Value) (h0 : Heap) (n0 : Nat) (O0 : Old Z n0 h0) (hE : EV Z Ra Ya Ia Ua Ka Ga Ma Da Aa) (P0 : Arv Z h0 t0 k0 .byte (4 : Int32) [(.int b0), (.int b1), (.int b2), (.int b3)] (.int 0)) (m0 : ¬ (b0 < (0 : Int32))) (m1 : b1 < (0 : Int32)) :
   Ib l Iba (Jvm.Cond.code Iba jdk_123_method_3_code 5 (some .int) :: ws) (Hb 0 0 0 0) #[(.ref t0), (.int 0), (.int 4)] Z h0 (fun v h L => v = some (.int 1) ∧ Fr n0 L ∧ h = h0) := by
 refine Db (plainFor_of_name Uu) n0 [] fun p e s m below meth c s₁ hx hby hml hown hnm hret hlk X00 e00 hZ N00 K00 hNG => ?_
 have k00 : Ab p e below m s₁ #[(.ref t0), (.int 0), (.int 4)] 5 s₁ 0 #[vr t0, vi 0, vi 4, .unset, .unset] [] := fun t k => castTop (Zba m t0 (0 : Int32) (4 : Int32) ) k
 obtain ⟨cl10, Ar10, q10, Sz10, Nn10, Hs10, Gf10⟩ := id P0
 have hin11 := inb_of (j := 0) Sz10 ⟨by decide, by decide⟩
 have hat12 : cl10.slots[((0 : Int32)).toNatClampNeg]? = some (.int b0) := Hs10.at hin11 rfl
 obtain ⟨cl13, Ar13, q13, Sz13, Nn13, Hs13, Gf13⟩ := id P0
 have hin14 := inb_of (j := 1) Sz13 ⟨by decide, by decide⟩
 have hat15 : cl13.slots[((1 : Int32)).toNatClampNeg]? = some (.int b1) := Hs13.at hin14 rfl
 have k16 : Ab p e below m s₁ #[(.ref t0), (.int 0), (.int 4)] 5 s₁ 24 #[vr t0, vi 0, vi 4, vi 4, vi 1] [(.int 1)] := by
  intro t k
  refine k00 t ?_
  refine Pa X00 hx hby Iu rfl ?_
  refine Pa X00 hx hby Ku rfl ?_
  refine XS.iadd X00.here hx rfl (hb hby Lu) rfl ?_
  show Za p e below m s₁ 3 #[vr t0, vi 0, vi 4, .unset, .unset] [(.int ((0 : Int32) + (4 : Int32)))] t
  rw [U2a]
  refine XS.istoreN X00.here hx rfl (hb hby Mu) rfl (l' := #[vr t0, vi 0, vi 4, vi 4, .unset]) rfl ?_
  refine Pa X00 hx hby Pu rfl ?_
  refine XS.istore X00.here hx rfl (hb hby Ru) rfl (l' := #[vr t0, vi 0, vi 4, vi 4, vi 0]) rfl ?_
  refine Wa X00 hx hby Dg rfl ?_
  refine Pa X00 hx hby Gg rfl ?_
  refine XS.icmpNo X00.here hx rfl (hb hby Wf) rfl (tlt (by decide : (0 : Int32) < (4 : Int32))).2.1 ?_
  refine Va X00 hx hby Pg rfl rfl ?_
  refine Wa X00 hx hby Rg rfl ?_
  refine X00.baloadBytes hx (j := 0) (v := (.int b0)) (by rw [e00]; exact Ar10.1) (State.isArrayOf_alike hZ.alike Ar10.2.1) Ar10.2.2 hin11 hat12 (g := (mkF m 16 #[vr t0, vi 0, vi 4, vi 4, vi 0] [(.int 0), (.ref t0)])) rfl rfl (hb hby Ug) _ ?_
  refine XS.ifYes X00.here hx rfl (pc0 := 17) (pc' := 25) rfl (hb hby Vg) rfl ((if0 _ _).trans (flt m0).2.1) (by decide) (by decide) ?_
  refine XS.iinc X00.here hx rfl (hb hby Zm) rfl (l' := #[vr t0, vi 0, vi 4, vi 4, vi ((0 : Int32) + (1 : Int32))]) rfl ?_
  rw [Mh]
  show Za p e below m s₁ 28 #[vr t0, vi 0, vi 4, vi 4, vi 1] [] t
  refine XS.goto X00.here hx rfl (pc0 := 28) (pc' := 7) rfl (hb hby Bn) (by decide) (by decide) ?_
  refine Wa X00 hx hby Dg rfl ?_
  refine Pa X00 hx hby Gg rfl ?_
  refine XS.icmpNo X00.here hx rfl (hb hby Wf) rfl (tlt (by decide : (1 : Int32) < (4 : Int32))).2.1 ?_
  refine Va X00 hx hby Pg rfl rfl ?_
  refine Wa X00 hx hby Rg rfl ?_
  refine X00.baloadBytes hx (j := 1) (v := (.int b1)) (by rw [e00]; exact Ar13.1) (State.isArrayOf_alike hZ.alike Ar13.2.1) Ar13.2.2 hin14 hat15 (g := (mkF m 16 #[vr t0, vi 0, vi 4, vi 4, vi 1] [(.int 1), (.ref t0)])) rfl rfl (hb hby Ug) _ ?_
  refine XS.ifNo X00.here hx rfl (hb hby Vg) rfl ((if0 _ _).trans (tlt m1).2.1) ?_
  refine Wa X00 hx hby Wx rfl ?_
  refine Pa X00 hx hby Yx rfl ?_
  refine XS.isub X00.here hx rfl (hb hby Zx) rfl ?_
  show Za p e below m s₁ 24 #[vr t0, vi 0, vi 4, vi 4, vi 1] [(.int ((1 : Int32) - (0 : Int32)))] t
  rw [A1a]
  exact k
 exact Zb (.int 1) hNG hlk hret X00 e00 (by decide) (by decide) (fun fs hr => k16 _ (retOut X00 hx (t := .int) hret rfl (Or.inl ⟨rfl, Or.inl rfl, _, rfl⟩) (hb hby Ay) hr)) ⟨rfl, N00, rfl⟩
theorem V2a : ((0 : Int32) + (5 : Int32)) = (5 : Int32) := by decide
theorem B7a (l : Launch) (Z : State) (a0 : Array Value) (hw : Pb a0 Z) (ws : List Jvm.Cond) (t0 : Addr) (k0 : ClassId) (b0 b1 b2 b3 b4 : Int32) (Ra Ya Ia Ua Ka Ga Ma : Addr) (Da : Int32) (Aa : Value) (h0 : Heap) (n0 : Nat) (O0 : Old Z n0 h0) (hE : EV Z Ra Ya Ia Ua Ka Ga Ma Da Aa) (P0 : Arv Z h0 t0 k0 .byte (5 : Int32) [(.int b0), (.int b1), (.int b2), (.int b3), (.int b4)] (.int 0)) (m0 : ¬ (b0 < (0 : Int32))) (m1 : b1 < (0 : Int32)) :
   Ib l Iba (Jvm.Cond.code Iba jdk_123_method_3_code 5 (some .int) :: ws) (Hb 0 0 0 0) #[(.ref t0), (.int 0), (.int 5)] Z h0 (fun v h L => v = some (.int 1) ∧ Fr n0 L ∧ h = h0) := by
 refine Db (plainFor_of_name Uu) n0 [] fun p e s m below meth c s₁ hx hby hml hown hnm hret hlk X00 e00 hZ N00 K00 hNG => ?_
 have k00 : Ab p e below m s₁ #[(.ref t0), (.int 0), (.int 5)] 5 s₁ 0 #[vr t0, vi 0, vi 5, .unset, .unset] [] := fun t k => castTop (Zba m t0 (0 : Int32) (5 : Int32) ) k
 obtain ⟨cl10, Ar10, q10, Sz10, Nn10, Hs10, Gf10⟩ := id P0
 have hin11 := inb_of (j := 0) Sz10 ⟨by decide, by decide⟩
 have hat12 : cl10.slots[((0 : Int32)).toNatClampNeg]? = some (.int b0) := Hs10.at hin11 rfl
 obtain ⟨cl13, Ar13, q13, Sz13, Nn13, Hs13, Gf13⟩ := id P0
 have hin14 := inb_of (j := 1) Sz13 ⟨by decide, by decide⟩
 have hat15 : cl13.slots[((1 : Int32)).toNatClampNeg]? = some (.int b1) := Hs13.at hin14 rfl
 have k16 : Ab p e below m s₁ #[(.ref t0), (.int 0), (.int 5)] 5 s₁ 24 #[vr t0, vi 0, vi 5, vi 5, vi 1] [(.int 1)] := by
  intro t k
  refine k00 t ?_
  refine Pa X00 hx hby Iu rfl ?_
  refine Pa X00 hx hby Ku rfl ?_
  refine XS.iadd X00.here hx rfl (hb hby Lu) rfl ?_
  show Za p e below m s₁ 3 #[vr t0, vi 0, vi 5, .unset, .unset] [(.int ((0 : Int32) + (5 : Int32)))] t
  rw [V2a]
  refine XS.istoreN X00.here hx rfl (hb hby Mu) rfl (l' := #[vr t0, vi 0, vi 5, vi 5, .unset]) rfl ?_
  refine Pa X00 hx hby Pu rfl ?_
  refine XS.istore X00.here hx rfl (hb hby Ru) rfl (l' := #[vr t0, vi 0, vi 5, vi 5, vi 0]) rfl ?_
  refine Wa X00 hx hby Dg rfl ?_
  refine Pa X00 hx hby Gg rfl ?_
  refine XS.icmpNo X00.here hx rfl (hb hby Wf) rfl (tlt (by decide : (0 : Int32) < (5 : Int32))).2.1 ?_
  refine Va X00 hx hby Pg rfl rfl ?_
  refine Wa X00 hx hby Rg rfl ?_
  refine X00.baloadBytes hx (j := 0) (v := (.int b0)) (by rw [e00]; exact Ar10.1) (State.isArrayOf_alike hZ.alike Ar10.2.1) Ar10.2.2 hin11 hat12 (g := (mkF m 16 #[vr t0, vi 0, vi 5, vi 5, vi 0] [(.int 0), (.ref t0)])) rfl rfl (hb hby Ug) _ ?_
  refine XS.ifYes X00.here hx rfl (pc0 := 17) (pc' := 25) rfl (hb hby Vg) rfl ((if0 _ _).trans (flt m0).2.1) (by decide) (by decide) ?_
  refine XS.iinc X00.here hx rfl (hb hby Zm) rfl (l' := #[vr t0, vi 0, vi 5, vi 5, vi ((0 : Int32) + (1 : Int32))]) rfl ?_
  rw [Mh]
  show Za p e below m s₁ 28 #[vr t0, vi 0, vi 5, vi 5, vi 1] [] t
  refine XS.goto X00.here hx rfl (pc0 := 28) (pc' := 7) rfl (hb hby Bn) (by decide) (by decide) ?_
  refine Wa X00 hx hby Dg rfl ?_
  refine Pa X00 hx hby Gg rfl ?_
  refine XS.icmpNo X00.here hx rfl (hb hby Wf) rfl (tlt (by decide : (1 : Int32) < (5 : Int32))).2.1 ?_
  refine Va X00 hx hby Pg rfl rfl ?_
  refine Wa X00 hx hby Rg rfl ?_
  refine X00.baloadBytes hx (j := 1) (v := (.int b1)) (by rw [e00]; exact Ar13.1) (State.isArrayOf_alike hZ.alike Ar13.2.1) Ar13.2.2 hin14 hat15 (g := (mkF m 16 #[vr t0, vi 0, vi 5, vi 5, vi 1] [(.int 1), (.ref t0)])) rfl rfl (hb hby Ug) _ ?_
  refine XS.ifNo X00.here hx rfl (hb hby Vg) rfl ((if0 _ _).trans (tlt m1).2.1) ?_
  refine Wa X00 hx hby Wx rfl ?_
  refine Pa X00 hx hby Yx rfl ?_
  refine XS.isub X00.here hx rfl (hb hby Zx) rfl ?_
  show Za p e below m s₁ 24 #[vr t0, vi 0, vi 5, vi 5, vi 1] [(.int ((1 : Int32) - (0 : Int32)))] t
  rw [A1a]
  exact k
 exact Zb (.int 1) hNG hlk hret X00 e00 (by decide) (by decide) (fun fs hr => k16 _ (retOut X00 hx (t := .int) hret rfl (Or.inl ⟨rfl, Or.inl rfl, _, rfl⟩) (hb hby Ay) hr)) ⟨rfl, N00, rfl⟩
abbrev Ge : ByteArray := jdk_65_method_132_code
theorem Ls : decode Ge 0 = .ok (.iload_n 1, 1) := by decide +kernel
theorem Ms : decode Ge 1 = .ok (.ifCond .ne 9, 3) := by decide +kernel
theorem Ps : decode Ge 4 = .ok (.iload_n 2, 1) := by decide +kernel
theorem Rs : decode Ge 5 = .ok (.aload_n 0, 1) := by decide +kernel
theorem Us : decode Ge 6 = .ok (.arraylength, 1) := by decide +kernel
theorem Vs : decode Ge 7 = .ok (.if_icmp .eq 10, 3) := by decide +kernel
theorem Uo : decode Ge 17 = .ok (.aload_n 0, 1) := by decide +kernel
theorem Vo : decode Ge 18 = .ok (.invokevirtual 310, 3) := by decide +kernel
theorem Wo : decode Ge 21 = .ok (.checkcast 311, 3) := by decide +kernel
theorem Yo : decode Ge 24 = .ok (.areturn, 1) := by decide +kernel
theorem Al : plainName "java/util/Arrays" = true := by first | (simp [plainName, overriddenIn]; done) | decide +kernel
abbrev Kba : MethodName := ⟨"java/util/Arrays", "copyOfRange", "([BII)[B"⟩
theorem R8a (l : Launch) (Z : State) (a0 : Array Value) (hw : Pb a0 Z) (ws : List Jvm.Cond) (t0 : Addr) (k0 : ClassId) (b0 b1 : Int32) (Ra Ya Ia Ua Ka Ga Ma : Addr) (Da : Int32) (Aa : Value) (h0 : Heap) (n0 : Nat) (O0 : Old Z n0 h0) (hE : EV Z Ra Ya Ia Ua Ka Ga Ma Da Aa) (P0 : Arv Z h0 t0 k0 .byte (2 : Int32) [(.int b0), (.int b1)] (.int 0)) (P1 : Exa Z h0 t0 "[B") :
   Ib l Kba (Jvm.Cond.code Kba jdk_65_method_132_code 3 (some (.array .byte)) :: ws) (Hb 1 1 2 14) #[(.ref t0), (.int 0), (.int 2)] Z h0 (fun v h L => ∃ (b : Addr) (k : ClassId), v = some (.ref b) ∧ Fr n0 L ∧ Old Z n0 h ∧ Keep h0 h [] ∧ n0 ≤ b ∧ h0.size ≤ b ∧ Arv Z h b k .byte (2 : Int32) [(.int b0), (.int b1)] (.int 0)) := by
 refine Db (plainFor_of_name Al) n0 [] fun p e s m below meth c s₁ hx hby hml hown hnm hret hlk X00 e00 hZ N00 K00 hNG => ?_
 have k00 : Ab p e below m s₁ #[(.ref t0), (.int 0), (.int 2)] 3 s₁ 0 #[vr t0, vi 0, vi 2] [] := fun t k => castTop (Kv m t0 (0 : Int32) (2 : Int32) ) k
 obtain ⟨cl10, Ar10, q10, Sz10, Nn10, Hs10, Gf10⟩ := id P0
 obtain ⟨cl11, Ar11, q11, Sz11, Nn11, Hs11, Gf11⟩ := id P0
 have Fc11 := fitC_of Ar11 (fun i hi v hv => by rw [Hs11 i hi] at hv; cases hv; exact Gf11 i hi)
 obtain ⟨T12, h12, X12, e12, E12, A12, Ex12, st12⟩ := cloneA X00 hx hZ hown (Ba hw 76 rfl) (Ba hw 77 rfl) (Ba hw 81 rfl) (Ba hw 79 rfl) (Ba hw 80 rfl) (Ba hw 82 rfl) e00 Ar11 P1 Fc11 (g := (mkF m 18 #[vr t0, vi 0, vi 2] [(.ref t0)])) rfl (by rw [hml]; rfl) rfl (hb hby Vo) (by decide) (W := 0) (cap := 2) (by show 2 * 0 + _ ≤ _; exact Nat.le_of_eq rfl) (by decide) (by rw [Sz11]; decide) (by decide) (by decide)
 obtain ⟨b12, g12⟩ : ∃ z, z = h0.size := ⟨_, rfl⟩
 rw [← g12] at A12 Ex12 st12
 have O12 := O0.ext E12
 have g_b12 : n0 ≤ b12 := Nat.le_trans (Nat.le_of_eq O0.1.symm) (Nat.le_trans O0.2.1 (Nat.le_of_eq g12.symm))
 have s_b12 : h0.size ≤ b12 := Nat.le_trans K00.1 (Nat.le_of_eq g12.symm)
 have K12 := K00.ext E12
 have V12 : Arv Z h12 b12 cl11.cls .byte (2 : Int32) [(.int b0), (.int b1)] (.int 0) := ⟨cloneOf cl11, A12, rfl, Sz11, Nn11, Hs11, Gf11⟩
 have lt_b12 := V12.lt
 obtain ⟨T13, X13, e13, st13⟩ := castY X12 hx hZ hown (Ba hw 83 rfl) e12 (Ins.self Ex12) (g := (mkF m 21 #[vr t0, vi 0, vi 2] [(.ref b12)])) rfl rfl (hb hby Wo)
 have k14 : Ab p e below m s₁ #[(.ref t0), (.int 0), (.int 2)] 3 T13 24 #[vr t0, vi 0, vi 2] [(.ref b12)] := by
  intro t k
  refine k00 t ?_
  refine Pa X00 hx hby Ls rfl ?_
  refine XS.ifNo X00.here hx rfl (hb hby Ms) rfl ((if0 _ _).trans (teq (by decide : (0 : Int32) = (0 : Int32))).2) ?_
  refine Pa X00 hx hby Ps rfl ?_
  refine Va X00 hx hby Rs rfl rfl ?_
  refine X00.arraylength hx (by rw [e00]; exact Ar10.1) (State.isArrayOf_alike hZ.alike Ar10.2.1) (g := (mkF m 6 #[vr t0, vi 0, vi 2] [(.ref t0), (.int 2)])) rfl rfl (hb hby Us) _ ?_
  rw [len_of Sz10 Nn10]
  refine XS.icmpYes X00.here hx rfl (pc0 := 7) (pc' := 17) rfl (hb hby Vs) rfl (teq (by decide : (2 : Int32) = (2 : Int32))).1 (by decide) (by decide) ?_
  refine Va X00 hx hby Uo rfl rfl ?_
  refine st12 _ ?_
  refine st13 _ ?_
  exact k
 exact Zb (.ref b12) hNG hlk hret X13 e13 (by decide) (by decide) (fun fs hr => k14 _ (retOut X13 hx (t := (.array .byte)) hret rfl (Or.inr (Or.inr (Or.inr (Or.inr ⟨rfl, rfl, rfl⟩)))) (hb hby Yo) hr)) ⟨b12, cl11.cls, rfl, N00, O12, K12, g_b12, s_b12, V12⟩
theorem B1a (l : Launch) (Z : State) (a0 : Array Value) (hw : Pb a0 Z) (ws : List Jvm.Cond) (t0 : Addr) (k0 : ClassId) (b0 b1 b2 : Int32) (Ra Ya Ia Ua Ka Ga Ma : Addr) (Da : Int32) (Aa : Value) (h0 : Heap) (n0 : Nat) (O0 : Old Z n0 h0) (hE : EV Z Ra Ya Ia Ua Ka Ga Ma Da Aa) (P0 : Arv Z h0 t0 k0 .byte (3 : Int32) [(.int b0), (.int b1), (.int b2)] (.int 0)) (P1 : Exa Z h0 t0 "[B") :
   Ib l Kba (Jvm.Cond.code Kba jdk_65_method_132_code 3 (some (.array .byte)) :: ws) (Hb 1 1 3 14) #[(.ref t0), (.int 0), (.int 3)] Z h0 (fun v h L => ∃ (b : Addr) (k : ClassId), v = some (.ref b) ∧ Fr n0 L ∧ Old Z n0 h ∧ Keep h0 h [] ∧ n0 ≤ b ∧ h0.size ≤ b ∧ Arv Z h b k .byte (3 : Int32) [(.int b0), (.int b1), (.int b2)] (.int 0)) := by
 refine Db (plainFor_of_name Al) n0 [] fun p e s m below meth c s₁ hx hby hml hown hnm hret hlk X00 e00 hZ N00 K00 hNG => ?_
 have k00 : Ab p e below m s₁ #[(.ref t0), (.int 0), (.int 3)] 3 s₁ 0 #[vr t0, vi 0, vi 3] [] := fun t k => castTop (Kv m t0 (0 : Int32) (3 : Int32) ) k
 obtain ⟨cl10, Ar10, q10, Sz10, Nn10, Hs10, Gf10⟩ := id P0
 obtain ⟨cl11, Ar11, q11, Sz11, Nn11, Hs11, Gf11⟩ := id P0
 have Fc11 := fitC_of Ar11 (fun i hi v hv => by rw [Hs11 i hi] at hv; cases hv; exact Gf11 i hi)
 obtain ⟨T12, h12, X12, e12, E12, A12, Ex12, st12⟩ := cloneA X00 hx hZ hown (Ba hw 76 rfl) (Ba hw 77 rfl) (Ba hw 81 rfl) (Ba hw 79 rfl) (Ba hw 80 rfl) (Ba hw 82 rfl) e00 Ar11 P1 Fc11 (g := (mkF m 18 #[vr t0, vi 0, vi 3] [(.ref t0)])) rfl (by rw [hml]; rfl) rfl (hb hby Vo) (by decide) (W := 0) (cap := 3) (by show 2 * 0 + _ ≤ _; exact Nat.le_of_eq rfl) (by decide) (by rw [Sz11]; decide) (by decide) (by decide)
 obtain ⟨b12, g12⟩ : ∃ z, z = h0.size := ⟨_, rfl⟩
 rw [← g12] at A12 Ex12 st12
 have O12 := O0.ext E12
 have g_b12 : n0 ≤ b12 := Nat.le_trans (Nat.le_of_eq O0.1.symm) (Nat.le_trans O0.2.1 (Nat.le_of_eq g12.symm))
 have s_b12 : h0.size ≤ b12 := Nat.le_trans K00.1 (Nat.le_of_eq g12.symm)
 have K12 := K00.ext E12
 have V12 : Arv Z h12 b12 cl11.cls .byte (3 : Int32) [(.int b0), (.int b1), (.int b2)] (.int 0) := ⟨cloneOf cl11, A12, rfl, Sz11, Nn11, Hs11, Gf11⟩
 have lt_b12 := V12.lt
 obtain ⟨T13, X13, e13, st13⟩ := castY X12 hx hZ hown (Ba hw 83 rfl) e12 (Ins.self Ex12) (g := (mkF m 21 #[vr t0, vi 0, vi 3] [(.ref b12)])) rfl rfl (hb hby Wo)
 have k14 : Ab p e below m s₁ #[(.ref t0), (.int 0), (.int 3)] 3 T13 24 #[vr t0, vi 0, vi 3] [(.ref b12)] := by
  intro t k
  refine k00 t ?_
  refine Pa X00 hx hby Ls rfl ?_
  refine XS.ifNo X00.here hx rfl (hb hby Ms) rfl ((if0 _ _).trans (teq (by decide : (0 : Int32) = (0 : Int32))).2) ?_
  refine Pa X00 hx hby Ps rfl ?_
  refine Va X00 hx hby Rs rfl rfl ?_
  refine X00.arraylength hx (by rw [e00]; exact Ar10.1) (State.isArrayOf_alike hZ.alike Ar10.2.1) (g := (mkF m 6 #[vr t0, vi 0, vi 3] [(.ref t0), (.int 3)])) rfl rfl (hb hby Us) _ ?_
  rw [len_of Sz10 Nn10]
  refine XS.icmpYes X00.here hx rfl (pc0 := 7) (pc' := 17) rfl (hb hby Vs) rfl (teq (by decide : (3 : Int32) = (3 : Int32))).1 (by decide) (by decide) ?_
  refine Va X00 hx hby Uo rfl rfl ?_
  refine st12 _ ?_
  refine st13 _ ?_
  exact k
 exact Zb (.ref b12) hNG hlk hret X13 e13 (by decide) (by decide) (fun fs hr => k14 _ (retOut X13 hx (t := (.array .byte)) hret rfl (Or.inr (Or.inr (Or.inr (Or.inr ⟨rfl, rfl, rfl⟩)))) (hb hby Yo) hr)) ⟨b12, cl11.cls, rfl, N00, O12, K12, g_b12, s_b12, V12⟩
theorem U8a (l : Launch) (Z : State) (a0 : Array Value) (hw : Pb a0 Z) (ws : List Jvm.Cond) (t0 : Addr) (k0 : ClassId) (b0 b1 b2 b3 : Int32) (Ra Ya Ia Ua Ka Ga Ma : Addr) (Da : Int32) (Aa : Value) (h0 : Heap) (n0 : Nat) (O0 : Old Z n0 h0) (hE : EV Z Ra Ya Ia Ua Ka Ga Ma Da Aa) (P0 : Arv Z h0 t0 k0 .byte (4 : Int32) [(.int b0), (.int b1), (.int b2), (.int b3)] (.int 0)) (P1 : Exa Z h0 t0 "[B") :
   Ib l Kba (Jvm.Cond.code Kba jdk_65_method_132_code 3 (some (.array .byte)) :: ws) (Hb 1 1 4 14) #[(.ref t0), (.int 0), (.int 4)] Z h0 (fun v h L => ∃ (b : Addr) (k : ClassId), v = some (.ref b) ∧ Fr n0 L ∧ Old Z n0 h ∧ Keep h0 h [] ∧ n0 ≤ b ∧ h0.size ≤ b ∧ Arv Z h b k .byte (4 : Int32) [(.int b0), (.int b1), (.int b2), (.int b3)] (.int 0)) := by
 refine Db (plainFor_of_name Al) n0 [] fun p e s m below meth c s₁ hx hby hml hown hnm hret hlk X00 e00 hZ N00 K00 hNG => ?_
 have k00 : Ab p e below m s₁ #[(.ref t0), (.int 0), (.int 4)] 3 s₁ 0 #[vr t0, vi 0, vi 4] [] := fun t k => castTop (Kv m t0 (0 : Int32) (4 : Int32) ) k
 obtain ⟨cl10, Ar10, q10, Sz10, Nn10, Hs10, Gf10⟩ := id P0
 obtain ⟨cl11, Ar11, q11, Sz11, Nn11, Hs11, Gf11⟩ := id P0
 have Fc11 := fitC_of Ar11 (fun i hi v hv => by rw [Hs11 i hi] at hv; cases hv; exact Gf11 i hi)
 obtain ⟨T12, h12, X12, e12, E12, A12, Ex12, st12⟩ := cloneA X00 hx hZ hown (Ba hw 76 rfl) (Ba hw 77 rfl) (Ba hw 81 rfl) (Ba hw 79 rfl) (Ba hw 80 rfl) (Ba hw 82 rfl) e00 Ar11 P1 Fc11 (g := (mkF m 18 #[vr t0, vi 0, vi 4] [(.ref t0)])) rfl (by rw [hml]; rfl) rfl (hb hby Vo) (by decide) (W := 0) (cap := 4) (by show 2 * 0 + _ ≤ _; exact Nat.le_of_eq rfl) (by decide) (by rw [Sz11]; decide) (by decide) (by decide)
 obtain ⟨b12, g12⟩ : ∃ z, z = h0.size := ⟨_, rfl⟩
 rw [← g12] at A12 Ex12 st12
 have O12 := O0.ext E12
 have g_b12 : n0 ≤ b12 := Nat.le_trans (Nat.le_of_eq O0.1.symm) (Nat.le_trans O0.2.1 (Nat.le_of_eq g12.symm))
 have s_b12 : h0.size ≤ b12 := Nat.le_trans K00.1 (Nat.le_of_eq g12.symm)
 have K12 := K00.ext E12
 have V12 : Arv Z h12 b12 cl11.cls .byte (4 : Int32) [(.int b0), (.int b1), (.int b2), (.int b3)] (.int 0) := ⟨cloneOf cl11, A12, rfl, Sz11, Nn11, Hs11, Gf11⟩
 have lt_b12 := V12.lt
 obtain ⟨T13, X13, e13, st13⟩ := castY X12 hx hZ hown (Ba hw 83 rfl) e12 (Ins.self Ex12) (g := (mkF m 21 #[vr t0, vi 0, vi 4] [(.ref b12)])) rfl rfl (hb hby Wo)
 have k14 : Ab p e below m s₁ #[(.ref t0), (.int 0), (.int 4)] 3 T13 24 #[vr t0, vi 0, vi 4] [(.ref b12)] := by
  intro t k
  refine k00 t ?_
  refine Pa X00 hx hby Ls rfl ?_
  refine XS.ifNo X00.here hx rfl (hb hby Ms) rfl ((if0 _ _).trans (teq (by decide : (0 : Int32) = (0 : Int32))).2) ?_
  refine Pa X00 hx hby Ps rfl ?_
  refine Va X00 hx hby Rs rfl rfl ?_
  refine X00.arraylength hx (by rw [e00]; exact Ar10.1) (State.isArrayOf_alike hZ.alike Ar10.2.1) (g := (mkF m 6 #[vr t0, vi 0, vi 4] [(.ref t0), (.int 4)])) rfl rfl (hb hby Us) _ ?_
  rw [len_of Sz10 Nn10]
  refine XS.icmpYes X00.here hx rfl (pc0 := 7) (pc' := 17) rfl (hb hby Vs) rfl (teq (by decide : (4 : Int32) = (4 : Int32))).1 (by decide) (by decide) ?_
  refine Va X00 hx hby Uo rfl rfl ?_
  refine st12 _ ?_
  refine st13 _ ?_
  exact k
 exact Zb (.ref b12) hNG hlk hret X13 e13 (by decide) (by decide) (fun fs hr => k14 _ (retOut X13 hx (t := (.array .byte)) hret rfl (Or.inr (Or.inr (Or.inr (Or.inr ⟨rfl, rfl, rfl⟩)))) (hb hby Yo) hr)) ⟨b12, cl11.cls, rfl, N00, O12, K12, g_b12, s_b12, V12⟩
theorem V8a (l : Launch) (Z : State) (a0 : Array Value) (hw : Pb a0 Z) (ws : List Jvm.Cond) (t0 : Addr) (k0 : ClassId) (b0 b1 b2 b3 b4 : Int32) (Ra Ya Ia Ua Ka Ga Ma : Addr) (Da : Int32) (Aa : Value) (h0 : Heap) (n0 : Nat) (O0 : Old Z n0 h0) (hE : EV Z Ra Ya Ia Ua Ka Ga Ma Da Aa) (P0 : Arv Z h0 t0 k0 .byte (5 : Int32) [(.int b0), (.int b1), (.int b2), (.int b3), (.int b4)] (.int 0)) (P1 : Exa Z h0 t0 "[B") :
   Ib l Kba (Jvm.Cond.code Kba jdk_65_method_132_code 3 (some (.array .byte)) :: ws) (Hb 1 1 5 14) #[(.ref t0), (.int 0), (.int 5)] Z h0 (fun v h L => ∃ (b : Addr) (k : ClassId), v = some (.ref b) ∧ Fr n0 L ∧ Old Z n0 h ∧ Keep h0 h [] ∧ n0 ≤ b ∧ h0.size ≤ b ∧ Arv Z h b k .byte (5 : Int32) [(.int b0), (.int b1), (.int b2), (.int b3), (.int b4)] (.int 0)) := by
 refine Db (plainFor_of_name Al) n0 [] fun p e s m below meth c s₁ hx hby hml hown hnm hret hlk X00 e00 hZ N00 K00 hNG => ?_
 have k00 : Ab p e below m s₁ #[(.ref t0), (.int 0), (.int 5)] 3 s₁ 0 #[vr t0, vi 0, vi 5] [] := fun t k => castTop (Kv m t0 (0 : Int32) (5 : Int32) ) k
 obtain ⟨cl10, Ar10, q10, Sz10, Nn10, Hs10, Gf10⟩ := id P0
 obtain ⟨cl11, Ar11, q11, Sz11, Nn11, Hs11, Gf11⟩ := id P0
 have Fc11 := fitC_of Ar11 (fun i hi v hv => by rw [Hs11 i hi] at hv; cases hv; exact Gf11 i hi)
 obtain ⟨T12, h12, X12, e12, E12, A12, Ex12, st12⟩ := cloneA X00 hx hZ hown (Ba hw 76 rfl) (Ba hw 77 rfl) (Ba hw 81 rfl) (Ba hw 79 rfl) (Ba hw 80 rfl) (Ba hw 82 rfl) e00 Ar11 P1 Fc11 (g := (mkF m 18 #[vr t0, vi 0, vi 5] [(.ref t0)])) rfl (by rw [hml]; rfl) rfl (hb hby Vo) (by decide) (W := 0) (cap := 5) (by show 2 * 0 + _ ≤ _; exact Nat.le_of_eq rfl) (by decide) (by rw [Sz11]; decide) (by decide) (by decide)
 obtain ⟨b12, g12⟩ : ∃ z, z = h0.size := ⟨_, rfl⟩
 rw [← g12] at A12 Ex12 st12
 have O12 := O0.ext E12
 have g_b12 : n0 ≤ b12 := Nat.le_trans (Nat.le_of_eq O0.1.symm) (Nat.le_trans O0.2.1 (Nat.le_of_eq g12.symm))
 have s_b12 : h0.size ≤ b12 := Nat.le_trans K00.1 (Nat.le_of_eq g12.symm)
 have K12 := K00.ext E12
 have V12 : Arv Z h12 b12 cl11.cls .byte (5 : Int32) [(.int b0), (.int b1), (.int b2), (.int b3), (.int b4)] (.int 0) := ⟨cloneOf cl11, A12, rfl, Sz11, Nn11, Hs11, Gf11⟩
 have lt_b12 := V12.lt
 obtain ⟨T13, X13, e13, st13⟩ := castY X12 hx hZ hown (Ba hw 83 rfl) e12 (Ins.self Ex12) (g := (mkF m 21 #[vr t0, vi 0, vi 5] [(.ref b12)])) rfl rfl (hb hby Wo)
 have k14 : Ab p e below m s₁ #[(.ref t0), (.int 0), (.int 5)] 3 T13 24 #[vr t0, vi 0, vi 5] [(.ref b12)] := by
  intro t k
  refine k00 t ?_
  refine Pa X00 hx hby Ls rfl ?_
  refine XS.ifNo X00.here hx rfl (hb hby Ms) rfl ((if0 _ _).trans (teq (by decide : (0 : Int32) = (0 : Int32))).2) ?_
  refine Pa X00 hx hby Ps rfl ?_
  refine Va X00 hx hby Rs rfl rfl ?_
  refine X00.arraylength hx (by rw [e00]; exact Ar10.1) (State.isArrayOf_alike hZ.alike Ar10.2.1) (g := (mkF m 6 #[vr t0, vi 0, vi 5] [(.ref t0), (.int 5)])) rfl rfl (hb hby Us) _ ?_
  rw [len_of Sz10 Nn10]
  refine XS.icmpYes X00.here hx rfl (pc0 := 7) (pc' := 17) rfl (hb hby Vs) rfl (teq (by decide : (5 : Int32) = (5 : Int32))).1 (by decide) (by decide) ?_
  refine Va X00 hx hby Uo rfl rfl ?_
  refine st12 _ ?_
  refine st13 _ ?_
  exact k
 exact Zb (.ref b12) hNG hlk hret X13 e13 (by decide) (by decide) (fun fs hr => k14 _ (retOut X13 hx (t := (.array .byte)) hret rfl (Or.inr (Or.inr (Or.inr (Or.inr ⟨rfl, rfl, rfl⟩)))) (hb hby Yo) hr)) ⟨b12, cl11.cls, rfl, N00, O12, K12, g_b12, s_b12, V12⟩
theorem Kza (m : MethodId) (x0 : Addr) (x1 : Int32)  : entryFrame m #[(.ref x0), (.int x1)] 3 = mkF m 0 #[.val (.ref x0), .val (.int x1), .unset] [] := by first | (simp [entryFrame, mkF, argsToLocals, Value.category]; done) | rfl
abbrev Ic : ByteArray := jdk_65_method_121_code
theorem Ws : decode Ic 0 = .ok (.iload_n 1, 1) := by decide +kernel
theorem Ys : decode Ic 1 = .ok (.aload_n 0, 1) := by decide +kernel
theorem Zs : decode Ic 2 = .ok (.arraylength, 1) := by decide +kernel
theorem Bt : decode Ic 3 = .ok (.if_icmp .ne 11, 3) := by decide +kernel
theorem Zo : decode Ic 14 = .ok (.iload_n 1, 1) := by decide +kernel
theorem Ap : decode Ic 15 = .ok (.newarray .byte, 2) := by decide +kernel
theorem Bp : decode Ic 17 = .ok (.astore_n 2, 1) := by decide +kernel
theorem Dp : decode Ic 18 = .ok (.aload_n 0, 1) := by decide +kernel
theorem Gp : decode Ic 19 = .ok (.iconst 0, 1) := by decide +kernel
theorem Hp : decode Ic 20 = .ok (.aload_n 2, 1) := by decide +kernel
theorem Ip : decode Ic 21 = .ok (.iconst 0, 1) := by decide +kernel
theorem Kp : decode Ic 22 = .ok (.aload_n 0, 1) := by decide +kernel
theorem Lp : decode Ic 23 = .ok (.arraylength, 1) := by decide +kernel
theorem Mp : decode Ic 24 = .ok (.iload_n 1, 1) := by decide +kernel
theorem Pp : decode Ic 25 = .ok (.invokestatic 304, 3) := by decide +kernel
theorem Wwa (m : MethodId) (x0 : Int32) (x1 : Int32)  : entryFrame m #[(.int x0), (.int x1)] 2 = mkF m 0 #[.val (.int x0), .val (.int x1)] [] := by first | (simp [entryFrame, mkF, argsToLocals, Value.category]; done) | rfl
abbrev Dn : ByteArray := jdk_29_method_69_code
theorem Vu : decode Dn 0 = .ok (.iload_n 0, 1) := by decide +kernel
theorem Wu : decode Dn 1 = .ok (.iload_n 1, 1) := by decide +kernel
theorem Yu : decode Dn 2 = .ok (.if_icmp .gt 7, 3) := by decide +kernel
theorem Zu : decode Dn 9 = .ok (.iload_n 1, 1) := by decide +kernel
theorem Dt : decode Dn 10 = .ok (.ireturn, 1) := by decide +kernel
abbrev Lba : MethodName := ⟨"java/lang/Math", "min", "(II)I"⟩
theorem rm_f5 (l : Launch) (Z : State) (a0 : Array Value) (hw : Pb a0 Z) (ws : List Jvm.Cond) (Ra Ya Ia Ua Ka Ga Ma : Addr) (Da : Int32) (Aa : Value) (h0 : Heap) (n0 : Nat) (O0 : Old Z n0 h0) (hE : EV Z Ra Ya Ia Ua Ka Ga Ma Da Aa) :
   Ib l Lba (Jvm.Cond.code Lba jdk_29_method_69_code 2 (some .int) :: ws) (Hb 0 0 0 0) #[(.int 3), (.int 2)] Z h0 (fun v h L => v = some (.int 2) ∧ Fr n0 L ∧ h = h0) := by
 refine Db (Jvm.Free.JP.mathPlain rfl (by decide +kernel)) n0 [] fun p e s m below meth c s₁ hx hby hml hown hnm hret hlk X00 e00 hZ N00 K00 hNG => ?_
 have k00 : Ab p e below m s₁ #[(.int 3), (.int 2)] 2 s₁ 0 #[vi 3, vi 2] [] := fun t k => castTop (Wwa m (3 : Int32) (2 : Int32) ) k
 have k10 : Ab p e below m s₁ #[(.int 3), (.int 2)] 2 s₁ 10 #[vi 3, vi 2] [(.int 2)] := by
  intro t k
  refine k00 t ?_
  refine Pa X00 hx hby Vu rfl ?_
  refine Pa X00 hx hby Wu rfl ?_
  refine XS.icmpYes X00.here hx rfl (pc0 := 2) (pc' := 9) rfl (hb hby Yu) rfl (tlt (by decide : (2 : Int32) < (3 : Int32))).2.2.1 (by decide) (by decide) ?_
  refine Pa X00 hx hby Zu rfl ?_
  exact k
 exact Zb (.int 2) hNG hlk hret X00 e00 (by decide) (by decide) (fun fs hr => k10 _ (retOut X00 hx (t := .int) hret rfl (Or.inl ⟨rfl, Or.inl rfl, _, rfl⟩) (hb hby Dt) hr)) ⟨rfl, N00, rfl⟩
theorem Dxa : parseMethodDescriptor "(II)I" = some ⟨[.int, .int], some .int⟩ := by decide +kernel
theorem Rp : decode Ic 28 = .ok (.invokestatic 150, 3) := by decide +kernel
theorem Up : decode Ic 31 = .ok (.aload_n 2, 1) := by decide +kernel
theorem Vp : decode Ic 32 = .ok (.areturn, 1) := by decide +kernel
abbrev Mba : MethodName := ⟨"java/util/Arrays", "copyOf", "([BI)[B"⟩
theorem D7a (l : Launch) (Z : State) (a0 : Array Value) (hw : Pb a0 Z) (ws : List Jvm.Cond) (t0 : Addr) (k0 : ClassId) (x0 x1 x2 : Int32) (Ra Ya Ia Ua Ka Ga Ma : Addr) (Da : Int32) (Aa : Value) (h0 : Heap) (n0 : Nat) (O0 : Old Z n0 h0) (hE : EV Z Ra Ya Ia Ua Ka Ga Ma Da Aa) (P0 : Arv Z h0 t0 k0 .byte (3 : Int32) [(.int x0), (.int x1), (.int x2)] (.int 0)) :
   Ib l Mba (Jvm.Cond.code Mba jdk_65_method_121_code 3 (some (.array .byte)) :: ws) (Hb 1 1 2 18) #[(.ref t0), (.int 2)] Z h0 (fun v h L => ∃ (b : Addr) (k : ClassId), v = some (.ref b) ∧ Fr n0 L ∧ Old Z n0 h ∧ Keep h0 h [] ∧ n0 ≤ b ∧ h0.size ≤ b ∧ Arv Z h b k .byte (2 : Int32) [(.int x0), (.int x1)] (.int 0)) := by
 refine Db (plainFor_of_name Al) n0 [] fun p e s m below meth c s₁ hx hby hml hown hnm hret hlk X00 e00 hZ N00 K00 hNG => ?_
 have k00 : Ab p e below m s₁ #[(.ref t0), (.int 2)] 3 s₁ 0 #[vr t0, vi 2, .unset] [] := fun t k => castTop (Kza m t0 (2 : Int32) ) k
 obtain ⟨cl10, Ar10, q10, Sz10, Nn10, Hs10, Gf10⟩ := id P0
 obtain ⟨T11, h11, c11, X11, e11, E11, A11, Ex11, st11⟩ := newPE X00 hx hZ (Ba hw 10 rfl) e00 (g := (mkF m 15 #[vr t0, vi 2, .unset] [(.int 2)])) rfl (hb hby Ap) rfl (by decide) (cap := 2) (by decide) (by decide) (by decide) (by decide) (ad := "[B") (by decide)
 obtain ⟨b11, g11⟩ : ∃ z, z = h0.size := ⟨_, rfl⟩
 rw [← g11] at A11 st11 Ex11
 have O11 := O0.ext E11
 have g_b11 : n0 ≤ b11 := Nat.le_trans (Nat.le_of_eq O0.1.symm) (Nat.le_trans O0.2.1 (Nat.le_of_eq g11.symm))
 have s_b11 : h0.size ≤ b11 := Nat.le_trans K00.1 (Nat.le_of_eq g11.symm)
 have K11 := K00.ext E11
 have V11 : Arv Z h11 b11 c11 .byte (2 : Int32) [(.int 0), (.int 0)] (.int 0) := (Arv.new A11 (by decide)).pad (pad_rep [] (.int 0) 2)
 have lt_b11 := V11.lt
 have f12 := (P0.ext E11)
 obtain ⟨cl13, Ar13, q13, Sz13, Nn13, Hs13, Gf13⟩ := id f12
 obtain ⟨v14, T14, Lc14, X14, hQ14, st14⟩ := Ub X11 hx hZ hown (rm_f5 l Z a0 hw []  _ _ _ _ _ _ _ _ _ h11 n0 O11 hE ) (Ba hw 148 rfl) (Ba hw 149 rfl) (Ba hw 150 rfl) (Ba hw 151 rfl) e11 (g := (mkF m 25 #[vr t0, vi 2, vr b11] [(.int 2), (.int 3), (.int 0), (.ref b11), (.int 0), (.ref t0)])) rfl (by rw [hml]; rfl) (argsL := [(.int 3), (.int 2)]) (rest := [(.int 0), (.ref b11), (.int 0), (.ref t0)]) rfl (lenOf Dxa rfl) rfl (W := 4) (by show 2 * 0 + _ ≤ _; exact Nat.le_of_eq rfl) (hb hby Pp) (by decide) (by decide) (by decide) (by decide) (by decide)
 obtain ⟨rfl, N14q, hp14⟩ := hQ14
 have N14 := Fr.app N00 N14q
 obtain ⟨T15, h15, L15, X15, e15, N15, Kc15, Va15, st15⟩ := cpA X14 hx hZ hown (Ba hw 152 rfl) (Ba hw 155 rfl) (Ba hw 153 rfl) (Ba hw 154 rfl) hp14 (sp := (0 : Int32)) (dp := (0 : Int32)) (nn := (2 : Int32)) (us := [(.int x0), (.int x1)]) f12 V11 (Or.inl ⟨rfl, rfl⟩) (by decide) (by decide) (by decide) (by decide) (by decide) rfl (Nat.le_of_ble_eq_true rfl) N14 g_b11 (g := (mkF m 28 #[vr t0, vi 2, vr b11] [(.int 2), (.int 0), (.ref b11), (.int 0), (.ref t0)])) rfl (by rw [hml]; rfl) rfl (hb hby Rp) (by decide) (W := 0) (by show 2 * 0 + _ ≤ _; exact Nat.le_of_eq rfl) (by decide)
 have V15 : Arv Z h15 b11 c11 .byte (2 : Int32) [(.int x0), (.int x1)] (.int 0) := Va15
 have O15 := O11.keep Kc15 (allS g_b11 all0)
 have K15 := K11.trans Kc15 (allS (Or.inr s_b11) all0)
 have k16 : Ab p e below m s₁ #[(.ref t0), (.int 2)] 3 T15 32 #[vr t0, vi 2, vr b11] [(.ref b11)] := by
  intro t k
  refine k00 t ?_
  refine Pa X00 hx hby Ws rfl ?_
  refine Va X00 hx hby Ys rfl rfl ?_
  refine X00.arraylength hx (by rw [e00]; exact Ar10.1) (State.isArrayOf_alike hZ.alike Ar10.2.1) (g := (mkF m 2 #[vr t0, vi 2, .unset] [(.ref t0), (.int 2)])) rfl rfl (hb hby Zs) _ ?_
  rw [len_of Sz10 Nn10]
  refine XS.icmpYes X00.here hx rfl (pc0 := 3) (pc' := 14) rfl (hb hby Bt) rfl (feq (by decide : ¬ ((2 : Int32) = (3 : Int32)))).2 (by decide) (by decide) ?_
  refine Pa X00 hx hby Zo rfl ?_
  refine st11 _ ?_
  refine XS.astoreN X11.here hx rfl (hb hby Bp) rfl rfl (l' := #[vr t0, vi 2, vr b11]) rfl ?_
  refine Va X11 hx hby Dp rfl rfl ?_
  refine XS.iconst X11.here hx rfl (hb hby Gp) ?_
  refine Va X11 hx hby Hp rfl rfl ?_
  refine XS.iconst X11.here hx rfl (hb hby Ip) ?_
  refine Va X11 hx hby Kp rfl rfl ?_
  show Za p e below m T11 23 #[vr t0, vi 2, vr b11] [(.ref t0), (.int 0), (.ref b11), (.int 0), (.ref t0)] t
  refine X11.arraylength hx (by rw [e11]; exact Ar13.1) (State.isArrayOf_alike hZ.alike Ar13.2.1) (g := (mkF m 23 #[vr t0, vi 2, vr b11] [(.ref t0), (.int 0), (.ref b11), (.int 0), (.ref t0)])) rfl rfl (hb hby Lp) _ ?_
  rw [len_of Sz13 Nn13]
  refine Pa X11 hx hby Mp rfl ?_
  refine st14 _ ?_
  refine st15 _ ?_
  refine Va X15 hx hby Up rfl rfl ?_
  exact k
 exact Zb (.ref b11) hNG hlk hret X15 e15 (by decide) (by decide) (fun fs hr => k16 _ (retOut X15 hx (t := (.array .byte)) hret rfl (Or.inr (Or.inr (Or.inr (Or.inr ⟨rfl, rfl, rfl⟩)))) (hb hby Vp) hr)) ⟨b11, c11, rfl, N15, O15, K15, g_b11, s_b11, V15⟩
theorem rm_f6 (l : Launch) (Z : State) (a0 : Array Value) (hw : Pb a0 Z) (ws : List Jvm.Cond) (Ra Ya Ia Ua Ka Ga Ma : Addr) (Da : Int32) (Aa : Value) (h0 : Heap) (n0 : Nat) (O0 : Old Z n0 h0) (hE : EV Z Ra Ya Ia Ua Ka Ga Ma Da Aa) :
   Ib l Lba (Jvm.Cond.code Lba jdk_29_method_69_code 2 (some .int) :: ws) (Hb 0 0 0 0) #[(.int 6), (.int 4)] Z h0 (fun v h L => v = some (.int 4) ∧ Fr n0 L ∧ h = h0) := by
 refine Db (Jvm.Free.JP.mathPlain rfl (by decide +kernel)) n0 [] fun p e s m below meth c s₁ hx hby hml hown hnm hret hlk X00 e00 hZ N00 K00 hNG => ?_
 have k00 : Ab p e below m s₁ #[(.int 6), (.int 4)] 2 s₁ 0 #[vi 6, vi 4] [] := fun t k => castTop (Wwa m (6 : Int32) (4 : Int32) ) k
 have k10 : Ab p e below m s₁ #[(.int 6), (.int 4)] 2 s₁ 10 #[vi 6, vi 4] [(.int 4)] := by
  intro t k
  refine k00 t ?_
  refine Pa X00 hx hby Vu rfl ?_
  refine Pa X00 hx hby Wu rfl ?_
  refine XS.icmpYes X00.here hx rfl (pc0 := 2) (pc' := 9) rfl (hb hby Yu) rfl (tlt (by decide : (4 : Int32) < (6 : Int32))).2.2.1 (by decide) (by decide) ?_
  refine Pa X00 hx hby Zu rfl ?_
  exact k
 exact Zb (.int 4) hNG hlk hret X00 e00 (by decide) (by decide) (fun fs hr => k10 _ (retOut X00 hx (t := .int) hret rfl (Or.inl ⟨rfl, Or.inl rfl, _, rfl⟩) (hb hby Dt) hr)) ⟨rfl, N00, rfl⟩
theorem G7a (l : Launch) (Z : State) (a0 : Array Value) (hw : Pb a0 Z) (ws : List Jvm.Cond) (t0 : Addr) (k0 : ClassId) (x0 x1 x2 x3 x4 x5 : Int32) (Ra Ya Ia Ua Ka Ga Ma : Addr) (Da : Int32) (Aa : Value) (h0 : Heap) (n0 : Nat) (O0 : Old Z n0 h0) (hE : EV Z Ra Ya Ia Ua Ka Ga Ma Da Aa) (P0 : Arv Z h0 t0 k0 .byte (6 : Int32) [(.int x0), (.int x1), (.int x2), (.int x3), (.int x4), (.int x5)] (.int 0)) :
   Ib l Mba (Jvm.Cond.code Mba jdk_65_method_121_code 3 (some (.array .byte)) :: ws) (Hb 1 1 4 18) #[(.ref t0), (.int 4)] Z h0 (fun v h L => ∃ (b : Addr) (k : ClassId), v = some (.ref b) ∧ Fr n0 L ∧ Old Z n0 h ∧ Keep h0 h [] ∧ n0 ≤ b ∧ h0.size ≤ b ∧ Arv Z h b k .byte (4 : Int32) [(.int x0), (.int x1), (.int x2), (.int x3)] (.int 0)) := by
 refine Db (plainFor_of_name Al) n0 [] fun p e s m below meth c s₁ hx hby hml hown hnm hret hlk X00 e00 hZ N00 K00 hNG => ?_
 have k00 : Ab p e below m s₁ #[(.ref t0), (.int 4)] 3 s₁ 0 #[vr t0, vi 4, .unset] [] := fun t k => castTop (Kza m t0 (4 : Int32) ) k
 obtain ⟨cl10, Ar10, q10, Sz10, Nn10, Hs10, Gf10⟩ := id P0
 obtain ⟨T11, h11, c11, X11, e11, E11, A11, Ex11, st11⟩ := newPE X00 hx hZ (Ba hw 10 rfl) e00 (g := (mkF m 15 #[vr t0, vi 4, .unset] [(.int 4)])) rfl (hb hby Ap) rfl (by decide) (cap := 4) (by decide) (by decide) (by decide) (by decide) (ad := "[B") (by decide)
 obtain ⟨b11, g11⟩ : ∃ z, z = h0.size := ⟨_, rfl⟩
 rw [← g11] at A11 st11 Ex11
 have O11 := O0.ext E11
 have g_b11 : n0 ≤ b11 := Nat.le_trans (Nat.le_of_eq O0.1.symm) (Nat.le_trans O0.2.1 (Nat.le_of_eq g11.symm))
 have s_b11 : h0.size ≤ b11 := Nat.le_trans K00.1 (Nat.le_of_eq g11.symm)
 have K11 := K00.ext E11
 have V11 : Arv Z h11 b11 c11 .byte (4 : Int32) [(.int 0), (.int 0), (.int 0), (.int 0)] (.int 0) := (Arv.new A11 (by decide)).pad (pad_rep [] (.int 0) 4)
 have lt_b11 := V11.lt
 have f12 := (P0.ext E11)
 obtain ⟨cl13, Ar13, q13, Sz13, Nn13, Hs13, Gf13⟩ := id f12
 obtain ⟨v14, T14, Lc14, X14, hQ14, st14⟩ := Ub X11 hx hZ hown (rm_f6 l Z a0 hw []  _ _ _ _ _ _ _ _ _ h11 n0 O11 hE ) (Ba hw 148 rfl) (Ba hw 149 rfl) (Ba hw 150 rfl) (Ba hw 151 rfl) e11 (g := (mkF m 25 #[vr t0, vi 4, vr b11] [(.int 4), (.int 6), (.int 0), (.ref b11), (.int 0), (.ref t0)])) rfl (by rw [hml]; rfl) (argsL := [(.int 6), (.int 4)]) (rest := [(.int 0), (.ref b11), (.int 0), (.ref t0)]) rfl (lenOf Dxa rfl) rfl (W := 4) (by show 2 * 0 + _ ≤ _; exact Nat.le_of_eq rfl) (hb hby Pp) (by decide) (by decide) (by decide) (by decide) (by decide)
 obtain ⟨rfl, N14q, hp14⟩ := hQ14
 have N14 := Fr.app N00 N14q
 obtain ⟨T15, h15, L15, X15, e15, N15, Kc15, Va15, st15⟩ := cpA X14 hx hZ hown (Ba hw 152 rfl) (Ba hw 155 rfl) (Ba hw 153 rfl) (Ba hw 154 rfl) hp14 (sp := (0 : Int32)) (dp := (0 : Int32)) (nn := (4 : Int32)) (us := [(.int x0), (.int x1), (.int x2), (.int x3)]) f12 V11 (Or.inl ⟨rfl, rfl⟩) (by decide) (by decide) (by decide) (by decide) (by decide) rfl (Nat.le_of_ble_eq_true rfl) N14 g_b11 (g := (mkF m 28 #[vr t0, vi 4, vr b11] [(.int 4), (.int 0), (.ref b11), (.int 0), (.ref t0)])) rfl (by rw [hml]; rfl) rfl (hb hby Rp) (by decide) (W := 0) (by show 2 * 0 + _ ≤ _; exact Nat.le_of_eq rfl) (by decide)
 have V15 : Arv Z h15 b11 c11 .byte (4 : Int32) [(.int x0), (.int x1), (.int x2), (.int x3)] (.int 0) := Va15
 have O15 := O11.keep Kc15 (allS g_b11 all0)
 have K15 := K11.trans Kc15 (allS (Or.inr s_b11) all0)
 have k16 : Ab p e below m s₁ #[(.ref t0), (.int 4)] 3 T15 32 #[vr t0, vi 4, vr b11] [(.ref b11)] := by
  intro t k
  refine k00 t ?_
  refine Pa X00 hx hby Ws rfl ?_
  refine Va X00 hx hby Ys rfl rfl ?_
  refine X00.arraylength hx (by rw [e00]; exact Ar10.1) (State.isArrayOf_alike hZ.alike Ar10.2.1) (g := (mkF m 2 #[vr t0, vi 4, .unset] [(.ref t0), (.int 4)])) rfl rfl (hb hby Zs) _ ?_
  rw [len_of Sz10 Nn10]
  refine XS.icmpYes X00.here hx rfl (pc0 := 3) (pc' := 14) rfl (hb hby Bt) rfl (feq (by decide : ¬ ((4 : Int32) = (6 : Int32)))).2 (by decide) (by decide) ?_
  refine Pa X00 hx hby Zo rfl ?_
  refine st11 _ ?_
  refine XS.astoreN X11.here hx rfl (hb hby Bp) rfl rfl (l' := #[vr t0, vi 4, vr b11]) rfl ?_
  refine Va X11 hx hby Dp rfl rfl ?_
  refine XS.iconst X11.here hx rfl (hb hby Gp) ?_
  refine Va X11 hx hby Hp rfl rfl ?_
  refine XS.iconst X11.here hx rfl (hb hby Ip) ?_
  refine Va X11 hx hby Kp rfl rfl ?_
  show Za p e below m T11 23 #[vr t0, vi 4, vr b11] [(.ref t0), (.int 0), (.ref b11), (.int 0), (.ref t0)] t
  refine X11.arraylength hx (by rw [e11]; exact Ar13.1) (State.isArrayOf_alike hZ.alike Ar13.2.1) (g := (mkF m 23 #[vr t0, vi 4, vr b11] [(.ref t0), (.int 0), (.ref b11), (.int 0), (.ref t0)])) rfl rfl (hb hby Lp) _ ?_
  rw [len_of Sz13 Nn13]
  refine Pa X11 hx hby Mp rfl ?_
  refine st14 _ ?_
  refine st15 _ ?_
  refine Va X15 hx hby Up rfl rfl ?_
  exact k
 exact Zb (.ref b11) hNG hlk hret X15 e15 (by decide) (by decide) (fun fs hr => k16 _ (retOut X15 hx (t := (.array .byte)) hret rfl (Or.inr (Or.inr (Or.inr (Or.inr ⟨rfl, rfl, rfl⟩)))) (hb hby Vp) hr)) ⟨b11, c11, rfl, N15, O15, K15, g_b11, s_b11, V15⟩
theorem rm_f7 (l : Launch) (Z : State) (a0 : Array Value) (hw : Pb a0 Z) (ws : List Jvm.Cond) (Ra Ya Ia Ua Ka Ga Ma : Addr) (Da : Int32) (Aa : Value) (h0 : Heap) (n0 : Nat) (O0 : Old Z n0 h0) (hE : EV Z Ra Ya Ia Ua Ka Ga Ma Da Aa) :
   Ib l Lba (Jvm.Cond.code Lba jdk_29_method_69_code 2 (some .int) :: ws) (Hb 0 0 0 0) #[(.int 8), (.int 4)] Z h0 (fun v h L => v = some (.int 4) ∧ Fr n0 L ∧ h = h0) := by
 refine Db (Jvm.Free.JP.mathPlain rfl (by decide +kernel)) n0 [] fun p e s m below meth c s₁ hx hby hml hown hnm hret hlk X00 e00 hZ N00 K00 hNG => ?_
 have k00 : Ab p e below m s₁ #[(.int 8), (.int 4)] 2 s₁ 0 #[vi 8, vi 4] [] := fun t k => castTop (Wwa m (8 : Int32) (4 : Int32) ) k
 have k10 : Ab p e below m s₁ #[(.int 8), (.int 4)] 2 s₁ 10 #[vi 8, vi 4] [(.int 4)] := by
  intro t k
  refine k00 t ?_
  refine Pa X00 hx hby Vu rfl ?_
  refine Pa X00 hx hby Wu rfl ?_
  refine XS.icmpYes X00.here hx rfl (pc0 := 2) (pc' := 9) rfl (hb hby Yu) rfl (tlt (by decide : (4 : Int32) < (8 : Int32))).2.2.1 (by decide) (by decide) ?_
  refine Pa X00 hx hby Zu rfl ?_
  exact k
 exact Zb (.int 4) hNG hlk hret X00 e00 (by decide) (by decide) (fun fs hr => k10 _ (retOut X00 hx (t := .int) hret rfl (Or.inl ⟨rfl, Or.inl rfl, _, rfl⟩) (hb hby Dt) hr)) ⟨rfl, N00, rfl⟩
theorem H7a (l : Launch) (Z : State) (a0 : Array Value) (hw : Pb a0 Z) (ws : List Jvm.Cond) (t0 : Addr) (k0 : ClassId) (x0 x1 x2 x3 x4 x5 x6 x7 : Int32) (Ra Ya Ia Ua Ka Ga Ma : Addr) (Da : Int32) (Aa : Value) (h0 : Heap) (n0 : Nat) (O0 : Old Z n0 h0) (hE : EV Z Ra Ya Ia Ua Ka Ga Ma Da Aa) (P0 : Arv Z h0 t0 k0 .byte (8 : Int32) [(.int x0), (.int x1), (.int x2), (.int x3), (.int x4), (.int x5), (.int x6), (.int x7)] (.int 0)) :
   Ib l Mba (Jvm.Cond.code Mba jdk_65_method_121_code 3 (some (.array .byte)) :: ws) (Hb 1 1 4 18) #[(.ref t0), (.int 4)] Z h0 (fun v h L => ∃ (b : Addr) (k : ClassId), v = some (.ref b) ∧ Fr n0 L ∧ Old Z n0 h ∧ Keep h0 h [] ∧ n0 ≤ b ∧ h0.size ≤ b ∧ Arv Z h b k .byte (4 : Int32) [(.int x0), (.int x1), (.int x2), (.int x3)] (.int 0)) := by
 refine Db (plainFor_of_name Al) n0 [] fun p e s m below meth c s₁ hx hby hml hown hnm hret hlk X00 e00 hZ N00 K00 hNG => ?_
 have k00 : Ab p e below m s₁ #[(.ref t0), (.int 4)] 3 s₁ 0 #[vr t0, vi 4, .unset] [] := fun t k => castTop (Kza m t0 (4 : Int32) ) k
 obtain ⟨cl10, Ar10, q10, Sz10, Nn10, Hs10, Gf10⟩ := id P0
 obtain ⟨T11, h11, c11, X11, e11, E11, A11, Ex11, st11⟩ := newPE X00 hx hZ (Ba hw 10 rfl) e00 (g := (mkF m 15 #[vr t0, vi 4, .unset] [(.int 4)])) rfl (hb hby Ap) rfl (by decide) (cap := 4) (by decide) (by decide) (by decide) (by decide) (ad := "[B") (by decide)
 obtain ⟨b11, g11⟩ : ∃ z, z = h0.size := ⟨_, rfl⟩
 rw [← g11] at A11 st11 Ex11
 have O11 := O0.ext E11
 have g_b11 : n0 ≤ b11 := Nat.le_trans (Nat.le_of_eq O0.1.symm) (Nat.le_trans O0.2.1 (Nat.le_of_eq g11.symm))
 have s_b11 : h0.size ≤ b11 := Nat.le_trans K00.1 (Nat.le_of_eq g11.symm)
 have K11 := K00.ext E11
 have V11 : Arv Z h11 b11 c11 .byte (4 : Int32) [(.int 0), (.int 0), (.int 0), (.int 0)] (.int 0) := (Arv.new A11 (by decide)).pad (pad_rep [] (.int 0) 4)
 have lt_b11 := V11.lt
 have f12 := (P0.ext E11)
 obtain ⟨cl13, Ar13, q13, Sz13, Nn13, Hs13, Gf13⟩ := id f12
 obtain ⟨v14, T14, Lc14, X14, hQ14, st14⟩ := Ub X11 hx hZ hown (rm_f7 l Z a0 hw []  _ _ _ _ _ _ _ _ _ h11 n0 O11 hE ) (Ba hw 148 rfl) (Ba hw 149 rfl) (Ba hw 150 rfl) (Ba hw 151 rfl) e11 (g := (mkF m 25 #[vr t0, vi 4, vr b11] [(.int 4), (.int 8), (.int 0), (.ref b11), (.int 0), (.ref t0)])) rfl (by rw [hml]; rfl) (argsL := [(.int 8), (.int 4)]) (rest := [(.int 0), (.ref b11), (.int 0), (.ref t0)]) rfl (lenOf Dxa rfl) rfl (W := 4) (by show 2 * 0 + _ ≤ _; exact Nat.le_of_eq rfl) (hb hby Pp) (by decide) (by decide) (by decide) (by decide) (by decide)
 obtain ⟨rfl, N14q, hp14⟩ := hQ14
 have N14 := Fr.app N00 N14q
 obtain ⟨T15, h15, L15, X15, e15, N15, Kc15, Va15, st15⟩ := cpA X14 hx hZ hown (Ba hw 152 rfl) (Ba hw 155 rfl) (Ba hw 153 rfl) (Ba hw 154 rfl) hp14 (sp := (0 : Int32)) (dp := (0 : Int32)) (nn := (4 : Int32)) (us := [(.int x0), (.int x1), (.int x2), (.int x3)]) f12 V11 (Or.inl ⟨rfl, rfl⟩) (by decide) (by decide) (by decide) (by decide) (by decide) rfl (Nat.le_of_ble_eq_true rfl) N14 g_b11 (g := (mkF m 28 #[vr t0, vi 4, vr b11] [(.int 4), (.int 0), (.ref b11), (.int 0), (.ref t0)])) rfl (by rw [hml]; rfl) rfl (hb hby Rp) (by decide) (W := 0) (by show 2 * 0 + _ ≤ _; exact Nat.le_of_eq rfl) (by decide)
 have V15 : Arv Z h15 b11 c11 .byte (4 : Int32) [(.int x0), (.int x1), (.int x2), (.int x3)] (.int 0) := Va15
 have O15 := O11.keep Kc15 (allS g_b11 all0)
 have K15 := K11.trans Kc15 (allS (Or.inr s_b11) all0)
 have k16 : Ab p e below m s₁ #[(.ref t0), (.int 4)] 3 T15 32 #[vr t0, vi 4, vr b11] [(.ref b11)] := by
  intro t k
  refine k00 t ?_
  refine Pa X00 hx hby Ws rfl ?_
  refine Va X00 hx hby Ys rfl rfl ?_
  refine X00.arraylength hx (by rw [e00]; exact Ar10.1) (State.isArrayOf_alike hZ.alike Ar10.2.1) (g := (mkF m 2 #[vr t0, vi 4, .unset] [(.ref t0), (.int 4)])) rfl rfl (hb hby Zs) _ ?_
  rw [len_of Sz10 Nn10]
  refine XS.icmpYes X00.here hx rfl (pc0 := 3) (pc' := 14) rfl (hb hby Bt) rfl (feq (by decide : ¬ ((4 : Int32) = (8 : Int32)))).2 (by decide) (by decide) ?_
  refine Pa X00 hx hby Zo rfl ?_
  refine st11 _ ?_
  refine XS.astoreN X11.here hx rfl (hb hby Bp) rfl rfl (l' := #[vr t0, vi 4, vr b11]) rfl ?_
  refine Va X11 hx hby Dp rfl rfl ?_
  refine XS.iconst X11.here hx rfl (hb hby Gp) ?_
  refine Va X11 hx hby Hp rfl rfl ?_
  refine XS.iconst X11.here hx rfl (hb hby Ip) ?_
  refine Va X11 hx hby Kp rfl rfl ?_
  show Za p e below m T11 23 #[vr t0, vi 4, vr b11] [(.ref t0), (.int 0), (.ref b11), (.int 0), (.ref t0)] t
  refine X11.arraylength hx (by rw [e11]; exact Ar13.1) (State.isArrayOf_alike hZ.alike Ar13.2.1) (g := (mkF m 23 #[vr t0, vi 4, vr b11] [(.ref t0), (.int 0), (.ref b11), (.int 0), (.ref t0)])) rfl rfl (hb hby Lp) _ ?_
  rw [len_of Sz13 Nn13]
  refine Pa X11 hx hby Mp rfl ?_
  refine st14 _ ?_
  refine st15 _ ?_
  refine Va X15 hx hby Up rfl rfl ?_
  exact k
 exact Zb (.ref b11) hNG hlk hret X15 e15 (by decide) (by decide) (fun fs hr => k16 _ (retOut X15 hx (t := (.array .byte)) hret rfl (Or.inr (Or.inr (Or.inr (Or.inr ⟨rfl, rfl, rfl⟩)))) (hb hby Vp) hr)) ⟨b11, c11, rfl, N15, O15, K15, g_b11, s_b11, V15⟩
theorem rm_f8 (l : Launch) (Z : State) (a0 : Array Value) (hw : Pb a0 Z) (ws : List Jvm.Cond) (Ra Ya Ia Ua Ka Ga Ma : Addr) (Da : Int32) (Aa : Value) (h0 : Heap) (n0 : Nat) (O0 : Old Z n0 h0) (hE : EV Z Ra Ya Ia Ua Ka Ga Ma Da Aa) :
   Ib l Lba (Jvm.Cond.code Lba jdk_29_method_69_code 2 (some .int) :: ws) (Hb 0 0 0 0) #[(.int 10), (.int 6)] Z h0 (fun v h L => v = some (.int 6) ∧ Fr n0 L ∧ h = h0) := by
 refine Db (Jvm.Free.JP.mathPlain rfl (by decide +kernel)) n0 [] fun p e s m below meth c s₁ hx hby hml hown hnm hret hlk X00 e00 hZ N00 K00 hNG => ?_
 have k00 : Ab p e below m s₁ #[(.int 10), (.int 6)] 2 s₁ 0 #[vi 10, vi 6] [] := fun t k => castTop (Wwa m (10 : Int32) (6 : Int32) ) k
 have k10 : Ab p e below m s₁ #[(.int 10), (.int 6)] 2 s₁ 10 #[vi 10, vi 6] [(.int 6)] := by
  intro t k
  refine k00 t ?_
  refine Pa X00 hx hby Vu rfl ?_
  refine Pa X00 hx hby Wu rfl ?_
  refine XS.icmpYes X00.here hx rfl (pc0 := 2) (pc' := 9) rfl (hb hby Yu) rfl (tlt (by decide : (6 : Int32) < (10 : Int32))).2.2.1 (by decide) (by decide) ?_
  refine Pa X00 hx hby Zu rfl ?_
  exact k
 exact Zb (.int 6) hNG hlk hret X00 e00 (by decide) (by decide) (fun fs hr => k10 _ (retOut X00 hx (t := .int) hret rfl (Or.inl ⟨rfl, Or.inl rfl, _, rfl⟩) (hb hby Dt) hr)) ⟨rfl, N00, rfl⟩
theorem U4a (l : Launch) (Z : State) (a0 : Array Value) (hw : Pb a0 Z) (ws : List Jvm.Cond) (t0 : Addr) (k0 : ClassId) (x0 x1 x2 x3 x4 x5 x6 x7 x8 x9 : Int32) (Ra Ya Ia Ua Ka Ga Ma : Addr) (Da : Int32) (Aa : Value) (h0 : Heap) (n0 : Nat) (O0 : Old Z n0 h0) (hE : EV Z Ra Ya Ia Ua Ka Ga Ma Da Aa) (P0 : Arv Z h0 t0 k0 .byte (10 : Int32) [(.int x0), (.int x1), (.int x2), (.int x3), (.int x4), (.int x5), (.int x6), (.int x7), (.int x8), (.int x9)] (.int 0)) :
   Ib l Mba (Jvm.Cond.code Mba jdk_65_method_121_code 3 (some (.array .byte)) :: ws) (Hb 1 1 6 18) #[(.ref t0), (.int 6)] Z h0 (fun v h L => ∃ (b : Addr) (k : ClassId), v = some (.ref b) ∧ Fr n0 L ∧ Old Z n0 h ∧ Keep h0 h [] ∧ n0 ≤ b ∧ h0.size ≤ b ∧ Arv Z h b k .byte (6 : Int32) [(.int x0), (.int x1), (.int x2), (.int x3), (.int x4), (.int x5)] (.int 0)) := by
 refine Db (plainFor_of_name Al) n0 [] fun p e s m below meth c s₁ hx hby hml hown hnm hret hlk X00 e00 hZ N00 K00 hNG => ?_
 have k00 : Ab p e below m s₁ #[(.ref t0), (.int 6)] 3 s₁ 0 #[vr t0, vi 6, .unset] [] := fun t k => castTop (Kza m t0 (6 : Int32) ) k
 obtain ⟨cl10, Ar10, q10, Sz10, Nn10, Hs10, Gf10⟩ := id P0
 obtain ⟨T11, h11, c11, X11, e11, E11, A11, Ex11, st11⟩ := newPE X00 hx hZ (Ba hw 10 rfl) e00 (g := (mkF m 15 #[vr t0, vi 6, .unset] [(.int 6)])) rfl (hb hby Ap) rfl (by decide) (cap := 6) (by decide) (by decide) (by decide) (by decide) (ad := "[B") (by decide)
 obtain ⟨b11, g11⟩ : ∃ z, z = h0.size := ⟨_, rfl⟩
 rw [← g11] at A11 st11 Ex11
 have O11 := O0.ext E11
 have g_b11 : n0 ≤ b11 := Nat.le_trans (Nat.le_of_eq O0.1.symm) (Nat.le_trans O0.2.1 (Nat.le_of_eq g11.symm))
 have s_b11 : h0.size ≤ b11 := Nat.le_trans K00.1 (Nat.le_of_eq g11.symm)
 have K11 := K00.ext E11
 have V11 : Arv Z h11 b11 c11 .byte (6 : Int32) [(.int 0), (.int 0), (.int 0), (.int 0), (.int 0), (.int 0)] (.int 0) := (Arv.new A11 (by decide)).pad (pad_rep [] (.int 0) 6)
 have lt_b11 := V11.lt
 have f12 := (P0.ext E11)
 obtain ⟨cl13, Ar13, q13, Sz13, Nn13, Hs13, Gf13⟩ := id f12
 obtain ⟨v14, T14, Lc14, X14, hQ14, st14⟩ := Ub X11 hx hZ hown (rm_f8 l Z a0 hw []  _ _ _ _ _ _ _ _ _ h11 n0 O11 hE ) (Ba hw 148 rfl) (Ba hw 149 rfl) (Ba hw 150 rfl) (Ba hw 151 rfl) e11 (g := (mkF m 25 #[vr t0, vi 6, vr b11] [(.int 6), (.int 10), (.int 0), (.ref b11), (.int 0), (.ref t0)])) rfl (by rw [hml]; rfl) (argsL := [(.int 10), (.int 6)]) (rest := [(.int 0), (.ref b11), (.int 0), (.ref t0)]) rfl (lenOf Dxa rfl) rfl (W := 4) (by show 2 * 0 + _ ≤ _; exact Nat.le_of_eq rfl) (hb hby Pp) (by decide) (by decide) (by decide) (by decide) (by decide)
 obtain ⟨rfl, N14q, hp14⟩ := hQ14
 have N14 := Fr.app N00 N14q
 obtain ⟨T15, h15, L15, X15, e15, N15, Kc15, Va15, st15⟩ := cpA X14 hx hZ hown (Ba hw 152 rfl) (Ba hw 155 rfl) (Ba hw 153 rfl) (Ba hw 154 rfl) hp14 (sp := (0 : Int32)) (dp := (0 : Int32)) (nn := (6 : Int32)) (us := [(.int x0), (.int x1), (.int x2), (.int x3), (.int x4), (.int x5)]) f12 V11 (Or.inl ⟨rfl, rfl⟩) (by decide) (by decide) (by decide) (by decide) (by decide) rfl (Nat.le_of_ble_eq_true rfl) N14 g_b11 (g := (mkF m 28 #[vr t0, vi 6, vr b11] [(.int 6), (.int 0), (.ref b11), (.int 0), (.ref t0)])) rfl (by rw [hml]; rfl) rfl (hb hby Rp) (by decide) (W := 0) (by show 2 * 0 + _ ≤ _; exact Nat.le_of_eq rfl) (by decide)
 have V15 : Arv Z h15 b11 c11 .byte (6 : Int32) [(.int x0), (.int x1), (.int x2), (.int x3), (.int x4), (.int x5)] (.int 0) := Va15
 have O15 := O11.keep Kc15 (allS g_b11 all0)
 have K15 := K11.trans Kc15 (allS (Or.inr s_b11) all0)
 have k16 : Ab p e below m s₁ #[(.ref t0), (.int 6)] 3 T15 32 #[vr t0, vi 6, vr b11] [(.ref b11)] := by
  intro t k
  refine k00 t ?_
  refine Pa X00 hx hby Ws rfl ?_
  refine Va X00 hx hby Ys rfl rfl ?_
  refine X00.arraylength hx (by rw [e00]; exact Ar10.1) (State.isArrayOf_alike hZ.alike Ar10.2.1) (g := (mkF m 2 #[vr t0, vi 6, .unset] [(.ref t0), (.int 6)])) rfl rfl (hb hby Zs) _ ?_
  rw [len_of Sz10 Nn10]
  refine XS.icmpYes X00.here hx rfl (pc0 := 3) (pc' := 14) rfl (hb hby Bt) rfl (feq (by decide : ¬ ((6 : Int32) = (10 : Int32)))).2 (by decide) (by decide) ?_
  refine Pa X00 hx hby Zo rfl ?_
  refine st11 _ ?_
  refine XS.astoreN X11.here hx rfl (hb hby Bp) rfl rfl (l' := #[vr t0, vi 6, vr b11]) rfl ?_
  refine Va X11 hx hby Dp rfl rfl ?_
  refine XS.iconst X11.here hx rfl (hb hby Gp) ?_
  refine Va X11 hx hby Hp rfl rfl ?_
  refine XS.iconst X11.here hx rfl (hb hby Ip) ?_
  refine Va X11 hx hby Kp rfl rfl ?_
  show Za p e below m T11 23 #[vr t0, vi 6, vr b11] [(.ref t0), (.int 0), (.ref b11), (.int 0), (.ref t0)] t
  refine X11.arraylength hx (by rw [e11]; exact Ar13.1) (State.isArrayOf_alike hZ.alike Ar13.2.1) (g := (mkF m 23 #[vr t0, vi 6, vr b11] [(.ref t0), (.int 0), (.ref b11), (.int 0), (.ref t0)])) rfl rfl (hb hby Lp) _ ?_
  rw [len_of Sz13 Nn13]
  refine Pa X11 hx hby Mp rfl ?_
  refine st14 _ ?_
  refine st15 _ ?_
  refine Va X15 hx hby Up rfl rfl ?_
  exact k
 exact Zb (.ref b11) hNG hlk hret X15 e15 (by decide) (by decide) (fun fs hr => k16 _ (retOut X15 hx (t := (.array .byte)) hret rfl (Or.inr (Or.inr (Or.inr (Or.inr ⟨rfl, rfl, rfl⟩)))) (hb hby Vp) hr)) ⟨b11, c11, rfl, N15, O15, K15, g_b11, s_b11, V15⟩
theorem Aba (m : MethodId) (x0 : Addr)  : entryFrame m #[(.ref x0)] 1 = mkF m 0 #[.val (.ref x0)] [] := by first | (simp [entryFrame, mkF, argsToLocals, Value.category]; done) | rfl
abbrev Ho : ByteArray := jdk_52_method_6_code
theorem Y5 : decode Ho 0 = .ok (.aload_n 0, 1) := by decide +kernel
theorem Z5 : decode Ho 1 = .ok (.arraylength, 1) := by decide +kernel
theorem A6 : decode Ho 2 = .ok (.iconst 1, 1) := by decide +kernel
theorem B6 : decode Ho 3 = .ok (.ishr, 1) := by decide +kernel
theorem W8a : ((6 : Int32) >>> ((1 : Int32) &&& 31)) = (3 : Int32) := by decide
theorem D6 : decode Ho 4 = .ok (.ireturn, 1) := by decide +kernel
abbrev Kva : MethodName := ⟨"java/lang/StringUTF16", "length", "([B)I"⟩
theorem rm_ul3 (l : Launch) (Z : State) (a0 : Array Value) (hw : Pb a0 Z) (ws : List Jvm.Cond) (t1 : Addr) (k1 : ClassId) (Ra Ya Ia Ua Ka Ga Ma : Addr) (Da : Int32) (Aa : Value) (h0 : Heap) (n0 : Nat) (O0 : Old Z n0 h0) (hE : EV Z Ra Ya Ia Ua Ka Ga Ma Da Aa) (P0 : Arv Z h0 t1 k1 .byte (6 : Int32) [(.int 0), (.int 0), (.int 0), (.int 0), (.int 0), (.int 0)] (.int 0)) :
   Ib l Kva (Jvm.Cond.code Kva jdk_52_method_6_code 1 (some .int) :: ws) (Hb 0 0 0 0) #[(.ref t1)] Z h0 (fun v h L => v = some (.int 3) ∧ Fr n0 L ∧ h = h0) := by
 refine Db (plainFor_of_name Bb) n0 [] fun p e s m below meth c s₁ hx hby hml hown hnm hret hlk X00 e00 hZ N00 K00 hNG => ?_
 have k00 : Ab p e below m s₁ #[(.ref t1)] 1 s₁ 0 #[vr t1] [] := fun t k => castTop (Aba m t1 ) k
 obtain ⟨cl10, Ar10, q10, Sz10, Nn10, Hs10, Gf10⟩ := id P0
 have k11 : Ab p e below m s₁ #[(.ref t1)] 1 s₁ 4 #[vr t1] [(.int 3)] := by
  intro t k
  refine k00 t ?_
  refine Va X00 hx hby Y5 rfl rfl ?_
  refine X00.arraylength hx (by rw [e00]; exact Ar10.1) (State.isArrayOf_alike hZ.alike Ar10.2.1) (g := (mkF m 1 #[vr t1] [(.ref t1)])) rfl rfl (hb hby Z5) _ ?_
  rw [len_of Sz10 Nn10]
  refine XS.iconst X00.here hx rfl (hb hby A6) ?_
  refine XS.ishr X00.here hx rfl (hb hby B6) rfl ?_
  show Za p e below m s₁ 4 #[vr t1] [(.int ((6 : Int32) >>> ((1 : Int32) &&& 31)))] t
  rw [W8a]
  exact k
 exact Zb (.int 3) hNG hlk hret X00 e00 (by decide) (by decide) (fun fs hr => k11 _ (retOut X00 hx (t := .int) hret rfl (Or.inl ⟨rfl, Or.inl rfl, _, rfl⟩) (hb hby D6) hr)) ⟨rfl, N00, rfl⟩
theorem G0a (m : MethodId) (x0 : Int32) (x1 : Int32) (x2 : Addr)  : entryFrame m #[(.int x0), (.int x1), (.ref x2)] 3 = mkF m 0 #[.val (.int x0), .val (.int x1), .val (.ref x2)] [] := by first | (simp [entryFrame, mkF, argsToLocals, Value.category]; done) | rfl
abbrev Gh : ByteArray := jdk_52_method_94_code
theorem M2 : decode Gh 0 = .ok (.iload_n 0, 1) := by decide +kernel
theorem R2 : decode Gh 1 = .ok (.iload_n 1, 1) := by decide +kernel
theorem U2 : decode Gh 2 = .ok (.aload_n 2, 1) := by decide +kernel
theorem V2 : decode Gh 3 = .ok (.invokestatic 48, 3) := by decide +kernel
theorem H0a : parseMethodDescriptor "([B)I" = some ⟨[(.array .byte)], some .int⟩ := by decide +kernel
theorem W2 : decode Gh 6 = .ok (.invokestatic 419, 3) := by decide +kernel
theorem Bca (m : MethodId) (x0 : Int32) (x1 : Int32) (x2 : Int32)  : entryFrame m #[(.int x0), (.int x1), (.int x2)] 3 = mkF m 0 #[.val (.int x0), .val (.int x1), .val (.int x2)] [] := by first | (simp [entryFrame, mkF, argsToLocals, Value.category]; done) | rfl
abbrev Wh : ByteArray := jdk_42_method_157_code
theorem Dy : decode Wh 0 = .ok (.iload_n 0, 1) := by decide +kernel
theorem Gy : decode Wh 1 = .ok (.iload_n 1, 1) := by decide +kernel
theorem Hy : decode Wh 2 = .ok (.iload_n 2, 1) := by decide +kernel
theorem Iy : decode Wh 3 = .ok (.getstatic 1053, 3) := by decide +kernel
theorem Ky : decode Wh 6 = .ok (.invokestatic 1065, 3) := by decide +kernel
theorem Yxa (m : MethodId) (x0 : Int32) (x1 : Int32) (x2 : Int32) (x3 : Value) (q3 : x3.isRef = true) : entryFrame m #[(.int x0), (.int x1), (.int x2), x3] 4 = mkF m 0 #[.val (.int x0), .val (.int x1), .val (.int x2), .val x3] [] := by rcases ref_cases q3 with rfl | ⟨_, rfl⟩ <;> first | (simp [entryFrame, mkF, argsToLocals, Value.category]; done) | rfl
abbrev Ld : ByteArray := jdk_41_method_13_code
theorem Y2 : decode Ld 0 = .ok (.iload_n 2, 1) := by decide +kernel
theorem Z2 : decode Ld 1 = .ok (.iload_n 0, 1) := by decide +kernel
theorem A3 : decode Ld 2 = .ok (.ior, 1) := by decide +kernel
theorem Y8a : ((3 : Int32) ||| (0 : Int32)) = (3 : Int32) := by decide
theorem B3 : decode Ld 3 = .ok (.iload_n 1, 1) := by decide +kernel
theorem D3 : decode Ld 4 = .ok (.ior, 1) := by decide +kernel
theorem Z8a : ((3 : Int32) ||| (1 : Int32)) = (3 : Int32) := by decide
theorem G3 : decode Ld 5 = .ok (.ifCond .lt 10, 3) := by decide +kernel
theorem H3 : decode Ld 8 = .ok (.iload_n 1, 1) := by decide +kernel
theorem I3 : decode Ld 9 = .ok (.iload_n 2, 1) := by decide +kernel
theorem Ly : decode Ld 10 = .ok (.iload_n 0, 1) := by decide +kernel
theorem My : decode Ld 11 = .ok (.isub, 1) := by decide +kernel
theorem A9a : ((3 : Int32) - (0 : Int32)) = (3 : Int32) := by decide
theorem Py : decode Ld 12 = .ok (.if_icmp .le 11, 3) := by decide +kernel
theorem Ry : decode Ld 23 = .ok (.iload_n 0, 1) := by decide +kernel
theorem Uy : decode Ld 24 = .ok (.ireturn, 1) := by decide +kernel
theorem Ro : plainName "jdk/internal/util/Preconditions" = true := by first | (simp [plainName, overriddenIn]; done) | decide +kernel
abbrev Lva : MethodName := ⟨"jdk/internal/util/Preconditions", "checkFromIndexSize", "(IIILjava/util/function/BiFunction;)I"⟩
theorem rm_f10 (l : Launch) (Z : State) (a0 : Array Value) (hw : Pb a0 Z) (ws : List Jvm.Cond) (Ra Ya Ia Ua Ka Ga Ma : Addr) (Da : Int32) (Aa : Value) (h0 : Heap) (n0 : Nat) (O0 : Old Z n0 h0) (hE : EV Z Ra Ya Ia Ua Ka Ga Ma Da Aa) :
   Ib l Lva (Jvm.Cond.code Lva jdk_41_method_13_code 4 (some .int) :: ws) (Hb 0 0 0 0) #[(.int 0), (.int 1), (.int 3), Aa] Z h0 (fun v h L => v = some (.int 0) ∧ Fr n0 L ∧ h = h0) := by
 refine Db (plainFor_of_name Ro) n0 [] fun p e s m below meth c s₁ hx hby hml hown hnm hret hlk X00 e00 hZ N00 K00 hNG => ?_
 obtain ⟨_, _, _, _, _, _, _, _, _, _, _, _, _, _, _, _, _, Bo, _⟩ := id hE
 have k00 : Ab p e below m s₁ #[(.int 0), (.int 1), (.int 3), Aa] 4 s₁ 0 #[vi 0, vi 1, vi 3, .val Aa] [] := fun t k => castTop (Yxa m (0 : Int32) (1 : Int32) (3 : Int32) Aa Bo) k
 have k10 : Ab p e below m s₁ #[(.int 0), (.int 1), (.int 3), Aa] 4 s₁ 24 #[vi 0, vi 1, vi 3, .val Aa] [(.int 0)] := by
  intro t k
  refine k00 t ?_
  refine Pa X00 hx hby Y2 rfl ?_
  refine Pa X00 hx hby Z2 rfl ?_
  refine XS.ior X00.here hx rfl (hb hby A3) rfl ?_
  show Za p e below m s₁ 3 #[vi 0, vi 1, vi 3, .val Aa] [(.int ((3 : Int32) ||| (0 : Int32)))] t
  rw [Y8a]
  refine Pa X00 hx hby B3 rfl ?_
  refine XS.ior X00.here hx rfl (hb hby D3) rfl ?_
  show Za p e below m s₁ 5 #[vi 0, vi 1, vi 3, .val Aa] [(.int ((3 : Int32) ||| (1 : Int32)))] t
  rw [Z8a]
  refine XS.ifNo X00.here hx rfl (hb hby G3) rfl ((if0 _ _).trans (flt (by decide : ¬ ((3 : Int32) < (0 : Int32)))).1) ?_
  refine Pa X00 hx hby H3 rfl ?_
  refine Pa X00 hx hby I3 rfl ?_
  refine Pa X00 hx hby Ly rfl ?_
  refine XS.isub X00.here hx rfl (hb hby My) rfl ?_
  show Za p e below m s₁ 12 #[vi 0, vi 1, vi 3, .val Aa] [(.int ((3 : Int32) - (0 : Int32))), (.int 1)] t
  rw [A9a]
  refine XS.icmpYes X00.here hx rfl (pc0 := 12) (pc' := 23) rfl (hb hby Py) rfl (flt (by decide : ¬ ((3 : Int32) < (1 : Int32)))).2.2.2 (by decide) (by decide) ?_
  refine Pa X00 hx hby Ry rfl ?_
  exact k
 exact Zb (.int 0) hNG hlk hret X00 e00 (by decide) (by decide) (fun fs hr => k10 _ (retOut X00 hx (t := .int) hret rfl (Or.inl ⟨rfl, Or.inl rfl, _, rfl⟩) (hb hby Uy) hr)) ⟨rfl, N00, rfl⟩
theorem Gm : parseMethodDescriptor "(IIILjava/util/function/BiFunction;)I" = some ⟨[.int, .int, .int, (.object "java/util/function/BiFunction")], some .int⟩ := by decide +kernel
theorem Vy : decode Wh 9 = .ok (.ireturn, 1) := by decide +kernel
abbrev Mva : MethodName := ⟨"java/lang/String", "checkBoundsOffCount", "(III)I"⟩
theorem rm_f9 (l : Launch) (Z : State) (a0 : Array Value) (hw : Pb a0 Z) (ws : List Jvm.Cond) (Ra Ya Ia Ua Ka Ga Ma : Addr) (Da : Int32) (Aa : Value) (h0 : Heap) (n0 : Nat) (O0 : Old Z n0 h0) (hE : EV Z Ra Ya Ia Ua Ka Ga Ma Da Aa) :
   Ib l Mva (Jvm.Cond.code Mva jdk_42_method_157_code 3 (some .int) :: ws) (Hb 1 0 0 15) #[(.int 0), (.int 1), (.int 3)] Z h0 (fun v h L => v = some (.int 0) ∧ Fr n0 L ∧ h = h0) := by
 refine Db (plainFor_of_name Mb) n0 [] fun p e s m below meth c s₁ hx hby hml hown hnm hret hlk X00 e00 hZ N00 K00 hNG => ?_
 have k00 : Ab p e below m s₁ #[(.int 0), (.int 1), (.int 3)] 3 s₁ 0 #[vi 0, vi 1, vi 3] [] := fun t k => castTop (Bca m (0 : Int32) (1 : Int32) (3 : Int32) ) k
 obtain ⟨_, _, _, _, _, _, _, _, _, _, _, _, _, _, _, _, Mo, _⟩ := id hE
 obtain ⟨T10, X10, e10, st10⟩ := getS2 X00 hx hZ hown (host := "") (Or.inl (Ba hw 109 rfl)) Via.refl e00 (Mo.ext O0.2) (g := (mkF m 3 #[vi 0, vi 1, vi 3] [(.int 3), (.int 1), (.int 0)])) rfl (hb hby Iy)
 obtain ⟨v11, T11, Lc11, X11, hQ11, st11⟩ := Ub X10 hx hZ hown (rm_f10 l Z a0 hw []  _ _ _ _ _ _ _ _ _ h0 n0 O0 hE ) (Ba hw 111 rfl) (Ba hw 112 rfl) (Ba hw 110 rfl) (Ba hw 113 rfl) e10 (g := (mkF m 6 #[vi 0, vi 1, vi 3] [Aa, (.int 3), (.int 1), (.int 0)])) rfl (by rw [hml]; rfl) (argsL := [(.int 0), (.int 1), (.int 3), Aa]) (rest := []) rfl (lenOf Gm rfl) rfl (W := 0) (by show 2 * 0 + _ ≤ _; exact Nat.le_of_eq rfl) (hb hby Ky) (by decide) (by decide) (by decide) (by decide) (by decide)
 obtain ⟨rfl, N11q, hp11⟩ := hQ11
 have N11 := Fr.app N00 N11q
 have k12 : Ab p e below m s₁ #[(.int 0), (.int 1), (.int 3)] 3 T11 9 #[vi 0, vi 1, vi 3] [(.int 0)] := by
  intro t k
  refine k00 t ?_
  refine Pa X00 hx hby Dy rfl ?_
  refine Pa X00 hx hby Gy rfl ?_
  refine Pa X00 hx hby Hy rfl ?_
  refine st10 _ ?_
  refine st11 _ ?_
  exact k
 exact Zb (.int 0) hNG hlk hret X11 hp11 (by decide) (by decide) (fun fs hr => k12 _ (retOut X11 hx (t := .int) hret rfl (Or.inl ⟨rfl, Or.inl rfl, _, rfl⟩) (hb hby Vy) hr)) ⟨rfl, N11, rfl⟩
theorem Zxa : parseMethodDescriptor "(III)I" = some ⟨[.int, .int, .int], some .int⟩ := by decide +kernel
theorem K3 : decode Gh 9 = .ok (.pop, 1) := by decide +kernel
theorem Wy : decode Gh 10 = .ok (.return_, 1) := by decide +kernel
abbrev Pva : MethodName := ⟨"java/lang/StringUTF16", "checkBoundsOffCount", "(II[B)V"⟩
theorem rm_cb3 (l : Launch) (Z : State) (a0 : Array Value) (hw : Pb a0 Z) (ws : List Jvm.Cond) (t1 : Addr) (k1 : ClassId) (Ra Ya Ia Ua Ka Ga Ma : Addr) (Da : Int32) (Aa : Value) (h0 : Heap) (n0 : Nat) (O0 : Old Z n0 h0) (hE : EV Z Ra Ya Ia Ua Ka Ga Ma Da Aa) (P0 : Arv Z h0 t1 k1 .byte (6 : Int32) [(.int 0), (.int 0), (.int 0), (.int 0), (.int 0), (.int 0)] (.int 0)) :
   Ib l Pva (Jvm.Cond.code Pva jdk_52_method_94_code 3 none :: ws) (Hb 2 0 0 29) #[(.int 0), (.int 1), (.ref t1)] Z h0 (fun v h L => v = none ∧ Fr n0 L ∧ h = h0) := by
 refine Db (plainFor_of_name Bb) n0 [] fun p e s m below meth c s₁ hx hby hml hown hnm hret hlk X00 e00 hZ N00 K00 hNG => ?_
 have k00 : Ab p e below m s₁ #[(.int 0), (.int 1), (.ref t1)] 3 s₁ 0 #[vi 0, vi 1, vr t1] [] := fun t k => castTop (G0a m (0 : Int32) (1 : Int32) t1 ) k
 obtain ⟨v10, T10, Lc10, X10, hQ10, st10⟩ := Ub X00 hx hZ hown (rm_ul3 l Z a0 hw [] t1 k1 _ _ _ _ _ _ _ _ _ h0 n0 O0 hE P0 ) (Ba hw 103 rfl) (Ba hw 104 rfl) (Ba hw 87 rfl) (Ba hw 105 rfl) e00 (g := (mkF m 3 #[vi 0, vi 1, vr t1] [(.ref t1), (.int 1), (.int 0)])) rfl (by rw [hml]; rfl) (argsL := [(.ref t1)]) (rest := [(.int 1), (.int 0)]) rfl (lenOf H0a rfl) rfl (W := 2) (by show 2 * 0 + _ ≤ _; exact Nat.le_of_eq rfl) (hb hby V2) (by decide) (by decide) (by decide) (by decide) (by decide)
 obtain ⟨rfl, N10q, hp10⟩ := hQ10
 have N10 := Fr.app N00 N10q
 obtain ⟨v11, T11, Lc11, X11, hQ11, st11⟩ := Ub X10 hx hZ hown (rm_f9 l Z a0 hw []  _ _ _ _ _ _ _ _ _ h0 n0 O0 hE ) (Ba hw 106 rfl) (Ba hw 107 rfl) (Ba hw 29 rfl) (Ba hw 108 rfl) hp10 (g := (mkF m 6 #[vi 0, vi 1, vr t1] [(.int 3), (.int 1), (.int 0)])) rfl (by rw [hml]; rfl) (argsL := [(.int 0), (.int 1), (.int 3)]) (rest := []) rfl (lenOf Zxa rfl) rfl (W := 0) (by show 2 * 0 + _ ≤ _; exact Nat.le_of_eq rfl) (hb hby W2) (by decide) (by decide) (by decide) (by decide) (by decide)
 obtain ⟨rfl, N11q, hp11⟩ := hQ11
 have N11 := Fr.app N10 N11q
 have k12 : Ab p e below m s₁ #[(.int 0), (.int 1), (.ref t1)] 3 T11 10 #[vi 0, vi 1, vr t1] [] := by
  intro t k
  refine k00 t ?_
  refine Pa X00 hx hby M2 rfl ?_
  refine Pa X00 hx hby R2 rfl ?_
  refine Va X00 hx hby U2 rfl rfl ?_
  refine st10 _ ?_
  refine st11 _ ?_
  refine XS.pop X11.here hx rfl (hb hby K3) rfl rfl ?_
  exact k
 exact Yg hNG hlk X11 hp11 (by decide) (by decide) (fun fs hr => k12 _ (X11.returnOut hx hret (hb hby Wy) hr)) ⟨rfl, N11, rfl⟩
theorem Gxa (m : MethodId) (x0 : Addr) (x1 : Int32) (x2 : Addr) (x3 : Int32) (x4 : Int32)  : entryFrame m #[(.ref x0), (.int x1), (.ref x2), (.int x3), (.int x4)] 6 = mkF m 0 #[.val (.ref x0), .val (.int x1), .val (.ref x2), .val (.int x3), .val (.int x4), .unset] [] := by first | (simp [entryFrame, mkF, argsToLocals, Value.category]; done) | rfl
abbrev Vb : ByteArray := jdk_52_method_86_code
theorem L3 : decode Vb 0 = .ok (.iload_n 3, 1) := by decide +kernel
theorem M3 : decode Vb 1 = .ok (.iload 4, 2) := by decide +kernel
theorem R3 : decode Vb 3 = .ok (.aload_n 2, 1) := by decide +kernel
theorem U3 : decode Vb 4 = .ok (.invokestatic 173, 3) := by decide +kernel
theorem Hxa : parseMethodDescriptor "(II[B)V" = some ⟨[.int, .int, (.array .byte)], none⟩ := by decide +kernel
theorem V3 : decode Vb 7 = .ok (.iconst 0, 1) := by decide +kernel
theorem W3 : decode Vb 8 = .ok (.istore 5, 2) := by decide +kernel
theorem Mi : decode Vb 10 = .ok (.iload 5, 2) := by decide +kernel
theorem Pi : decode Vb 12 = .ok (.iload 4, 2) := by decide +kernel
theorem Ri : decode Vb 14 = .ok (.if_icmp .ge 27, 3) := by decide +kernel
theorem Yy : decode Vb 17 = .ok (.aload_n 2, 1) := by decide +kernel
theorem Zy : decode Vb 18 = .ok (.iload_n 3, 1) := by decide +kernel
theorem Az : decode Vb 19 = .ok (.iinc 3 1, 3) := by decide +kernel
theorem Bz : decode Vb 22 = .ok (.aload_n 0, 1) := by decide +kernel
theorem Dz : decode Vb 23 = .ok (.iload_n 1, 1) := by decide +kernel
theorem Gz : decode Vb 24 = .ok (.iinc 1 1, 3) := by decide +kernel
theorem Hz : decode Vb 27 = .ok (.baload, 1) := by decide +kernel
theorem Iz : decode Vb 28 = .ok (.sipush 255, 3) := by decide +kernel
theorem Kz : decode Vb 31 = .ok (.iand, 1) := by decide +kernel
theorem Lz : decode Vb 32 = .ok (.invokestatic 111, 3) := by decide +kernel
theorem Mz : decode Vb 35 = .ok (.iinc 5 1, 3) := by decide +kernel
theorem Pz : decode Vb 38 = .ok (.goto (-28), 3) := by decide +kernel
theorem Rz : decode Vb 41 = .ok (.return_, 1) := by decide +kernel
abbrev Rva : MethodName := ⟨"java/lang/StringUTF16", "inflate", "([BI[BII)V"⟩
theorem B9a (l : Launch) (Z : State) (a0 : Array Value) (hw : Pb a0 Z) (ws : List Jvm.Cond) (t0 t1 : Addr) (k0 k1 : ClassId) (b0 b1 b2 : Int32) (Ra Ya Ia Ua Ka Ga Ma : Addr) (Da : Int32) (Aa : Value) (h0 : Heap) (n0 : Nat) (O0 : Old Z n0 h0) (hE : EV Z Ra Ya Ia Ua Ka Ga Ma Da Aa) (P0 : Arv Z h0 t0 k0 .byte (3 : Int32) [(.int b0), (.int b1), (.int b2)] (.int 0)) (P1 : Arv Z h0 t1 k1 .byte (6 : Int32) [(.int 0), (.int 0), (.int 0), (.int 0), (.int 0), (.int 0)] (.int 0)) (g_t1 : n0 ≤ t1) (nt : ¬ (t0 = t1)) :
   Ib l Rva (Jvm.Cond.code Rva jdk_52_method_86_code 6 none :: ws) (Hb 3 0 0 43) #[(.ref t0), (.int 0), (.ref t1), (.int 0), (.int 1)] Z h0 (fun v h L => v = none ∧ Fr n0 L ∧ Old Z n0 h ∧ Keep h0 h [t1] ∧ Arv Z h t1 k1 .byte (6 : Int32) [(.int (((b0 &&& (255 : Int32)) >>> ((0 : Int32) &&& 31)).toInt8.toInt32)), (.int (((b0 &&& (255 : Int32)) >>> ((8 : Int32) &&& 31)).toInt8.toInt32)), (.int 0), (.int 0), (.int 0), (.int 0)] (.int 0)) := by
 refine Db (plainFor_of_name Bb) n0 [t1] fun p e s m below meth c s₁ hx hby hml hown hnm hret hlk X00 e00 hZ N00 K00 hNG => ?_
 have k00 : Ab p e below m s₁ #[(.ref t0), (.int 0), (.ref t1), (.int 0), (.int 1)] 6 s₁ 0 #[vr t0, vi 0, vr t1, vi 0, vi 1, .unset] [] := fun t k => castTop (Gxa m t0 (0 : Int32) t1 (0 : Int32) (1 : Int32) ) k
 obtain ⟨v10, T10, Lc10, X10, hQ10, st10⟩ := Ub X00 hx hZ hown (rm_cb3 l Z a0 hw [] t1 k1 _ _ _ _ _ _ _ _ _ h0 n0 O0 hE P1 ) (Ba hw 100 rfl) (Ba hw 101 rfl) (Ba hw 87 rfl) (Ba hw 102 rfl) e00 (g := (mkF m 4 #[vr t0, vi 0, vr t1, vi 0, vi 1, .unset] [(.ref t1), (.int 1), (.int 0)])) rfl (by rw [hml]; rfl) (argsL := [(.int 0), (.int 1), (.ref t1)]) (rest := []) rfl (lenOf Hxa rfl) rfl (W := 0) (by show 2 * 0 + _ ≤ _; exact Nat.le_of_eq rfl) (hb hby U3) (by decide) (by decide) (by decide) (by decide) (by decide)
 obtain ⟨rfl, N10q, hp10⟩ := hQ10
 have N10 := Fr.app N00 N10q
 obtain ⟨cl11, Ar11, q11, Sz11, Nn11, Hs11, Gf11⟩ := id P0
 have hin12 := inb_of (j := 0) Sz11 ⟨by decide, by decide⟩
 have hat13 : cl11.slots[((0 : Int32)).toNatClampNeg]? = some (.int b0) := Hs11.at hin12 rfl
 obtain ⟨v14, T14, Lc14, X14, hQ14, st14⟩ := Ub X10 hx hZ hown (U1a l Z a0 hw [] t1 k1 (b0 &&& (255 : Int32)) (0 : Int32) (0 : Int32) (0 : Int32) (0 : Int32) (0 : Int32) (0 : Int32) _ _ _ _ _ _ _ _ _ h0 n0 O0 hE P1 g_t1 ) (Ba hw 114 rfl) (Ba hw 115 rfl) (Ba hw 87 rfl) (Ba hw 116 rfl) hp10 (g := (mkF m 32 #[vr t0, vi 1, vr t1, vi 1, vi 1, vi 0] [(.int (b0 &&& (255 : Int32))), (.int 0), (.ref t1)])) rfl (by rw [hml]; rfl) (argsL := [(.ref t1), (.int 0), (.int (b0 &&& (255 : Int32)))]) (rest := []) rfl (lenOf Go rfl) rfl (W := 0) (by show 2 * 0 + _ ≤ _; exact Nat.le_of_eq rfl) (hb hby Lz) (by decide) (by decide) (by decide) (by decide) (by decide)
 obtain ⟨rfl, N14q, O14, Kc14, F14_0⟩ := hQ14
 have N14 := Fr.app N10 N14q
 have K14 := K00.trans Kc14 (allS (Or.inl (List.mem_of_getElem? (i := 0) rfl)) all0)
 have k15 : Ab p e below m s₁ #[(.ref t0), (.int 0), (.ref t1), (.int 0), (.int 1)] 6 T14 41 #[vr t0, vi 1, vr t1, vi 1, vi 1, vi 1] [] := by
  intro t k
  refine k00 t ?_
  refine Pa X00 hx hby L3 rfl ?_
  refine Wa X00 hx hby M3 rfl ?_
  refine Va X00 hx hby R3 rfl rfl ?_
  refine st10 _ ?_
  refine XS.iconst X10.here hx rfl (hb hby V3) ?_
  refine XS.istore X10.here hx rfl (hb hby W3) rfl (l' := #[vr t0, vi 0, vr t1, vi 0, vi 1, vi 0]) rfl ?_
  refine Wa X10 hx hby Mi rfl ?_
  refine Wa X10 hx hby Pi rfl ?_
  refine XS.icmpNo X10.here hx rfl (hb hby Ri) rfl (tlt (by decide : (0 : Int32) < (1 : Int32))).2.1 ?_
  refine Va X10 hx hby Yy rfl rfl ?_
  refine Pa X10 hx hby Zy rfl ?_
  refine XS.iinc X10.here hx rfl (hb hby Az) rfl (l' := #[vr t0, vi 0, vr t1, vi ((0 : Int32) + (1 : Int32)), vi 1, vi 0]) rfl ?_
  rw [Mh]
  show Za p e below m T10 22 #[vr t0, vi 0, vr t1, vi 1, vi 1, vi 0] [(.int 0), (.ref t1)] t
  refine Va X10 hx hby Bz rfl rfl ?_
  refine Pa X10 hx hby Dz rfl ?_
  refine XS.iinc X10.here hx rfl (hb hby Gz) rfl (l' := #[vr t0, vi ((0 : Int32) + (1 : Int32)), vr t1, vi 1, vi 1, vi 0]) rfl ?_
  rw [Mh]
  refine X10.baloadBytes hx (j := 0) (v := (.int b0)) (by rw [hp10]; exact Ar11.1) (State.isArrayOf_alike hZ.alike Ar11.2.1) Ar11.2.2 hin12 hat13 (g := (mkF m 27 #[vr t0, vi 1, vr t1, vi 1, vi 1, vi 0] [(.int 0), (.ref t0), (.int 0), (.ref t1)])) rfl rfl (hb hby Hz) _ ?_
  refine XS.sipush X10.here hx rfl (hb hby Iz) ?_
  refine XS.iand X10.here hx rfl (hb hby Kz) rfl ?_
  refine st14 _ ?_
  refine XS.iinc X14.here hx rfl (hb hby Mz) rfl (l' := #[vr t0, vi 1, vr t1, vi 1, vi 1, vi ((0 : Int32) + (1 : Int32))]) rfl ?_
  rw [Mh]
  refine XS.goto X14.here hx rfl (pc0 := 38) (pc' := 10) rfl (hb hby Pz) (by decide) (by decide) ?_
  refine Wa X14 hx hby Mi rfl ?_
  refine Wa X14 hx hby Pi rfl ?_
  refine XS.icmpYes X14.here hx rfl (pc0 := 14) (pc' := 41) rfl (hb hby Ri) rfl (flt (by decide : ¬ ((1 : Int32) < (1 : Int32)))).2.1 (by decide) (by decide) ?_
  show Za p e below m T14 41 #[vr t0, vi 1, vr t1, vi 1, vi 1, vi 1] [] t
  exact k
 exact Yg hNG hlk X14 rfl (by decide) (by decide) (fun fs hr => k15 _ (X14.returnOut hx hret (hb hby Rz) hr)) ⟨rfl, N14, O14, K14, F14_0⟩
theorem Ixa (m : MethodId) (x0 : Addr) (x1 : Int32) (x2 : Addr) (x3 : Int32) (x4 : Int32)  : entryFrame m #[(.ref x0), (.int x1), (.ref x2), (.int x3), (.int x4)] 5 = mkF m 0 #[.val (.ref x0), .val (.int x1), .val (.ref x2), .val (.int x3), .val (.int x4)] [] := by first | (simp [entryFrame, mkF, argsToLocals, Value.category]; done) | rfl
abbrev Hh : ByteArray := jdk_43_method_50_code
theorem Y3 : decode Hh 0 = .ok (.aload_n 0, 1) := by decide +kernel
theorem Z3 : decode Hh 1 = .ok (.iload_n 1, 1) := by decide +kernel
theorem A4 : decode Hh 2 = .ok (.aload_n 2, 1) := by decide +kernel
theorem B4 : decode Hh 3 = .ok (.iload_n 3, 1) := by decide +kernel
theorem D4 : decode Hh 4 = .ok (.iload 4, 2) := by decide +kernel
theorem G4 : decode Hh 6 = .ok (.invokestatic 240, 3) := by decide +kernel
theorem Uz : parseMethodDescriptor "([BI[BII)V" = some ⟨[(.array .byte), .int, (.array .byte), .int, .int], none⟩ := by decide +kernel
theorem H4 : decode Hh 9 = .ok (.return_, 1) := by decide +kernel
theorem Ik : plainName "java/lang/StringLatin1" = true := by first | (simp [plainName, overriddenIn]; done) | decide +kernel
abbrev Uva : MethodName := ⟨"java/lang/StringLatin1", "inflate", "([BI[BII)V"⟩
theorem A2a (l : Launch) (Z : State) (a0 : Array Value) (hw : Pb a0 Z) (ws : List Jvm.Cond) (t0 t1 : Addr) (k0 k1 : ClassId) (b0 b1 b2 : Int32) (Ra Ya Ia Ua Ka Ga Ma : Addr) (Da : Int32) (Aa : Value) (h0 : Heap) (n0 : Nat) (O0 : Old Z n0 h0) (hE : EV Z Ra Ya Ia Ua Ka Ga Ma Da Aa) (P0 : Arv Z h0 t0 k0 .byte (3 : Int32) [(.int b0), (.int b1), (.int b2)] (.int 0)) (P1 : Arv Z h0 t1 k1 .byte (6 : Int32) [(.int 0), (.int 0), (.int 0), (.int 0), (.int 0), (.int 0)] (.int 0)) (g_t1 : n0 ≤ t1) (nt : ¬ (t0 = t1)) :
   Ib l Uva (Jvm.Cond.code Uva jdk_43_method_50_code 5 none :: ws) (Hb 4 0 0 60) #[(.ref t0), (.int 0), (.ref t1), (.int 0), (.int 1)] Z h0 (fun v h L => v = none ∧ Fr n0 L ∧ Old Z n0 h ∧ Keep h0 h [t1] ∧ Arv Z h t1 k1 .byte (6 : Int32) [(.int (((b0 &&& (255 : Int32)) >>> ((0 : Int32) &&& 31)).toInt8.toInt32)), (.int (((b0 &&& (255 : Int32)) >>> ((8 : Int32) &&& 31)).toInt8.toInt32)), (.int 0), (.int 0), (.int 0), (.int 0)] (.int 0)) := by
 refine Db (plainFor_of_name Ik) n0 [t1] fun p e s m below meth c s₁ hx hby hml hown hnm hret hlk X00 e00 hZ N00 K00 hNG => ?_
 have k00 : Ab p e below m s₁ #[(.ref t0), (.int 0), (.ref t1), (.int 0), (.int 1)] 5 s₁ 0 #[vr t0, vi 0, vr t1, vi 0, vi 1] [] := fun t k => castTop (Ixa m t0 (0 : Int32) t1 (0 : Int32) (1 : Int32) ) k
 obtain ⟨v10, T10, Lc10, X10, hQ10, st10⟩ := Ub X00 hx hZ hown (B9a l Z a0 hw [] t0 t1 k0 k1 b0 b1 b2 _ _ _ _ _ _ _ _ _ h0 n0 O0 hE P0 P1 g_t1 nt) (Ba hw 97 rfl) (Ba hw 98 rfl) (Ba hw 87 rfl) (Ba hw 99 rfl) e00 (g := (mkF m 6 #[vr t0, vi 0, vr t1, vi 0, vi 1] [(.int 1), (.int 0), (.ref t1), (.int 0), (.ref t0)])) rfl (by rw [hml]; rfl) (argsL := [(.ref t0), (.int 0), (.ref t1), (.int 0), (.int 1)]) (rest := []) rfl (lenOf Uz rfl) rfl (W := 0) (by show 2 * 0 + _ ≤ _; exact Nat.le_of_eq rfl) (hb hby G4) (by decide) (by decide) (by decide) (by decide) (by decide)
 obtain ⟨rfl, N10q, O10, Kc10, F10_0⟩ := hQ10
 have N10 := Fr.app N00 N10q
 have K10 := K00.trans Kc10 (allS (Or.inl (List.mem_of_getElem? (i := 0) rfl)) all0)
 have k11 : Ab p e below m s₁ #[(.ref t0), (.int 0), (.ref t1), (.int 0), (.int 1)] 5 T10 9 #[vr t0, vi 0, vr t1, vi 0, vi 1] [] := by
  intro t k
  refine k00 t ?_
  refine Va X00 hx hby Y3 rfl rfl ?_
  refine Pa X00 hx hby Z3 rfl ?_
  refine Va X00 hx hby A4 rfl rfl ?_
  refine Pa X00 hx hby B4 rfl ?_
  refine Wa X00 hx hby D4 rfl ?_
  refine st10 _ ?_
  exact k
 exact Yg hNG hlk X10 rfl (by decide) (by decide) (fun fs hr => k11 _ (X10.returnOut hx hret (hb hby H4) hr)) ⟨rfl, N10, O10, K10, F10_0⟩
theorem D9a : ((8 : Int32) >>> ((1 : Int32) &&& 31)) = (4 : Int32) := by decide
theorem rm_ul4 (l : Launch) (Z : State) (a0 : Array Value) (hw : Pb a0 Z) (ws : List Jvm.Cond) (t1 : Addr) (k1 : ClassId) (Ra Ya Ia Ua Ka Ga Ma : Addr) (Da : Int32) (Aa : Value) (h0 : Heap) (n0 : Nat) (O0 : Old Z n0 h0) (hE : EV Z Ra Ya Ia Ua Ka Ga Ma Da Aa) (P0 : Arv Z h0 t1 k1 .byte (8 : Int32) [(.int 0), (.int 0), (.int 0), (.int 0), (.int 0), (.int 0), (.int 0), (.int 0)] (.int 0)) :
   Ib l Kva (Jvm.Cond.code Kva jdk_52_method_6_code 1 (some .int) :: ws) (Hb 0 0 0 0) #[(.ref t1)] Z h0 (fun v h L => v = some (.int 4) ∧ Fr n0 L ∧ h = h0) := by
 refine Db (plainFor_of_name Bb) n0 [] fun p e s m below meth c s₁ hx hby hml hown hnm hret hlk X00 e00 hZ N00 K00 hNG => ?_
 have k00 : Ab p e below m s₁ #[(.ref t1)] 1 s₁ 0 #[vr t1] [] := fun t k => castTop (Aba m t1 ) k
 obtain ⟨cl10, Ar10, q10, Sz10, Nn10, Hs10, Gf10⟩ := id P0
 have k11 : Ab p e below m s₁ #[(.ref t1)] 1 s₁ 4 #[vr t1] [(.int 4)] := by
  intro t k
  refine k00 t ?_
  refine Va X00 hx hby Y5 rfl rfl ?_
  refine X00.arraylength hx (by rw [e00]; exact Ar10.1) (State.isArrayOf_alike hZ.alike Ar10.2.1) (g := (mkF m 1 #[vr t1] [(.ref t1)])) rfl rfl (hb hby Z5) _ ?_
  rw [len_of Sz10 Nn10]
  refine XS.iconst X00.here hx rfl (hb hby A6) ?_
  refine XS.ishr X00.here hx rfl (hb hby B6) rfl ?_
  show Za p e below m s₁ 4 #[vr t1] [(.int ((8 : Int32) >>> ((1 : Int32) &&& 31)))] t
  rw [D9a]
  exact k
 exact Zb (.int 4) hNG hlk hret X00 e00 (by decide) (by decide) (fun fs hr => k11 _ (retOut X00 hx (t := .int) hret rfl (Or.inl ⟨rfl, Or.inl rfl, _, rfl⟩) (hb hby D6) hr)) ⟨rfl, N00, rfl⟩
theorem G9a : ((4 : Int32) ||| (0 : Int32)) = (4 : Int32) := by decide
theorem H9a : ((4 : Int32) ||| (1 : Int32)) = (5 : Int32) := by decide
theorem I9a : ((4 : Int32) - (0 : Int32)) = (4 : Int32) := by decide
theorem rm_f12 (l : Launch) (Z : State) (a0 : Array Value) (hw : Pb a0 Z) (ws : List Jvm.Cond) (Ra Ya Ia Ua Ka Ga Ma : Addr) (Da : Int32) (Aa : Value) (h0 : Heap) (n0 : Nat) (O0 : Old Z n0 h0) (hE : EV Z Ra Ya Ia Ua Ka Ga Ma Da Aa) :
   Ib l Lva (Jvm.Cond.code Lva jdk_41_method_13_code 4 (some .int) :: ws) (Hb 0 0 0 0) #[(.int 0), (.int 1), (.int 4), Aa] Z h0 (fun v h L => v = some (.int 0) ∧ Fr n0 L ∧ h = h0) := by
 refine Db (plainFor_of_name Ro) n0 [] fun p e s m below meth c s₁ hx hby hml hown hnm hret hlk X00 e00 hZ N00 K00 hNG => ?_
 obtain ⟨_, _, _, _, _, _, _, _, _, _, _, _, _, _, _, _, _, Bo, _⟩ := id hE
 have k00 : Ab p e below m s₁ #[(.int 0), (.int 1), (.int 4), Aa] 4 s₁ 0 #[vi 0, vi 1, vi 4, .val Aa] [] := fun t k => castTop (Yxa m (0 : Int32) (1 : Int32) (4 : Int32) Aa Bo) k
 have k10 : Ab p e below m s₁ #[(.int 0), (.int 1), (.int 4), Aa] 4 s₁ 24 #[vi 0, vi 1, vi 4, .val Aa] [(.int 0)] := by
  intro t k
  refine k00 t ?_
  refine Pa X00 hx hby Y2 rfl ?_
  refine Pa X00 hx hby Z2 rfl ?_
  refine XS.ior X00.here hx rfl (hb hby A3) rfl ?_
  show Za p e below m s₁ 3 #[vi 0, vi 1, vi 4, .val Aa] [(.int ((4 : Int32) ||| (0 : Int32)))] t
  rw [G9a]
  refine Pa X00 hx hby B3 rfl ?_
  refine XS.ior X00.here hx rfl (hb hby D3) rfl ?_
  show Za p e below m s₁ 5 #[vi 0, vi 1, vi 4, .val Aa] [(.int ((4 : Int32) ||| (1 : Int32)))] t
  rw [H9a]
  refine XS.ifNo X00.here hx rfl (hb hby G3) rfl ((if0 _ _).trans (flt (by decide : ¬ ((5 : Int32) < (0 : Int32)))).1) ?_
  refine Pa X00 hx hby H3 rfl ?_
  refine Pa X00 hx hby I3 rfl ?_
  refine Pa X00 hx hby Ly rfl ?_
  refine XS.isub X00.here hx rfl (hb hby My) rfl ?_
  show Za p e below m s₁ 12 #[vi 0, vi 1, vi 4, .val Aa] [(.int ((4 : Int32) - (0 : Int32))), (.int 1)] t
  rw [I9a]
  refine XS.icmpYes X00.here hx rfl (pc0 := 12) (pc' := 23) rfl (hb hby Py) rfl (flt (by decide : ¬ ((4 : Int32) < (1 : Int32)))).2.2.2 (by decide) (by decide) ?_
  refine Pa X00 hx hby Ry rfl ?_
  exact k
 exact Zb (.int 0) hNG hlk hret X00 e00 (by decide) (by decide) (fun fs hr => k10 _ (retOut X00 hx (t := .int) hret rfl (Or.inl ⟨rfl, Or.inl rfl, _, rfl⟩) (hb hby Uy) hr)) ⟨rfl, N00, rfl⟩
theorem rm_f11 (l : Launch) (Z : State) (a0 : Array Value) (hw : Pb a0 Z) (ws : List Jvm.Cond) (Ra Ya Ia Ua Ka Ga Ma : Addr) (Da : Int32) (Aa : Value) (h0 : Heap) (n0 : Nat) (O0 : Old Z n0 h0) (hE : EV Z Ra Ya Ia Ua Ka Ga Ma Da Aa) :
   Ib l Mva (Jvm.Cond.code Mva jdk_42_method_157_code 3 (some .int) :: ws) (Hb 1 0 0 15) #[(.int 0), (.int 1), (.int 4)] Z h0 (fun v h L => v = some (.int 0) ∧ Fr n0 L ∧ h = h0) := by
 refine Db (plainFor_of_name Mb) n0 [] fun p e s m below meth c s₁ hx hby hml hown hnm hret hlk X00 e00 hZ N00 K00 hNG => ?_
 have k00 : Ab p e below m s₁ #[(.int 0), (.int 1), (.int 4)] 3 s₁ 0 #[vi 0, vi 1, vi 4] [] := fun t k => castTop (Bca m (0 : Int32) (1 : Int32) (4 : Int32) ) k
 obtain ⟨_, _, _, _, _, _, _, _, _, _, _, _, _, _, _, _, Mo, _⟩ := id hE
 obtain ⟨T10, X10, e10, st10⟩ := getS2 X00 hx hZ hown (host := "") (Or.inl (Ba hw 109 rfl)) Via.refl e00 (Mo.ext O0.2) (g := (mkF m 3 #[vi 0, vi 1, vi 4] [(.int 4), (.int 1), (.int 0)])) rfl (hb hby Iy)
 obtain ⟨v11, T11, Lc11, X11, hQ11, st11⟩ := Ub X10 hx hZ hown (rm_f12 l Z a0 hw []  _ _ _ _ _ _ _ _ _ h0 n0 O0 hE ) (Ba hw 111 rfl) (Ba hw 112 rfl) (Ba hw 110 rfl) (Ba hw 113 rfl) e10 (g := (mkF m 6 #[vi 0, vi 1, vi 4] [Aa, (.int 4), (.int 1), (.int 0)])) rfl (by rw [hml]; rfl) (argsL := [(.int 0), (.int 1), (.int 4), Aa]) (rest := []) rfl (lenOf Gm rfl) rfl (W := 0) (by show 2 * 0 + _ ≤ _; exact Nat.le_of_eq rfl) (hb hby Ky) (by decide) (by decide) (by decide) (by decide) (by decide)
 obtain ⟨rfl, N11q, hp11⟩ := hQ11
 have N11 := Fr.app N00 N11q
 have k12 : Ab p e below m s₁ #[(.int 0), (.int 1), (.int 4)] 3 T11 9 #[vi 0, vi 1, vi 4] [(.int 0)] := by
  intro t k
  refine k00 t ?_
  refine Pa X00 hx hby Dy rfl ?_
  refine Pa X00 hx hby Gy rfl ?_
  refine Pa X00 hx hby Hy rfl ?_
  refine st10 _ ?_
  refine st11 _ ?_
  exact k
 exact Zb (.int 0) hNG hlk hret X11 hp11 (by decide) (by decide) (fun fs hr => k12 _ (retOut X11 hx (t := .int) hret rfl (Or.inl ⟨rfl, Or.inl rfl, _, rfl⟩) (hb hby Vy) hr)) ⟨rfl, N11, rfl⟩
theorem rm_cb4 (l : Launch) (Z : State) (a0 : Array Value) (hw : Pb a0 Z) (ws : List Jvm.Cond) (t1 : Addr) (k1 : ClassId) (Ra Ya Ia Ua Ka Ga Ma : Addr) (Da : Int32) (Aa : Value) (h0 : Heap) (n0 : Nat) (O0 : Old Z n0 h0) (hE : EV Z Ra Ya Ia Ua Ka Ga Ma Da Aa) (P0 : Arv Z h0 t1 k1 .byte (8 : Int32) [(.int 0), (.int 0), (.int 0), (.int 0), (.int 0), (.int 0), (.int 0), (.int 0)] (.int 0)) :
   Ib l Pva (Jvm.Cond.code Pva jdk_52_method_94_code 3 none :: ws) (Hb 2 0 0 29) #[(.int 0), (.int 1), (.ref t1)] Z h0 (fun v h L => v = none ∧ Fr n0 L ∧ h = h0) := by
 refine Db (plainFor_of_name Bb) n0 [] fun p e s m below meth c s₁ hx hby hml hown hnm hret hlk X00 e00 hZ N00 K00 hNG => ?_
 have k00 : Ab p e below m s₁ #[(.int 0), (.int 1), (.ref t1)] 3 s₁ 0 #[vi 0, vi 1, vr t1] [] := fun t k => castTop (G0a m (0 : Int32) (1 : Int32) t1 ) k
 obtain ⟨v10, T10, Lc10, X10, hQ10, st10⟩ := Ub X00 hx hZ hown (rm_ul4 l Z a0 hw [] t1 k1 _ _ _ _ _ _ _ _ _ h0 n0 O0 hE P0 ) (Ba hw 103 rfl) (Ba hw 104 rfl) (Ba hw 87 rfl) (Ba hw 105 rfl) e00 (g := (mkF m 3 #[vi 0, vi 1, vr t1] [(.ref t1), (.int 1), (.int 0)])) rfl (by rw [hml]; rfl) (argsL := [(.ref t1)]) (rest := [(.int 1), (.int 0)]) rfl (lenOf H0a rfl) rfl (W := 2) (by show 2 * 0 + _ ≤ _; exact Nat.le_of_eq rfl) (hb hby V2) (by decide) (by decide) (by decide) (by decide) (by decide)
 obtain ⟨rfl, N10q, hp10⟩ := hQ10
 have N10 := Fr.app N00 N10q
 obtain ⟨v11, T11, Lc11, X11, hQ11, st11⟩ := Ub X10 hx hZ hown (rm_f11 l Z a0 hw []  _ _ _ _ _ _ _ _ _ h0 n0 O0 hE ) (Ba hw 106 rfl) (Ba hw 107 rfl) (Ba hw 29 rfl) (Ba hw 108 rfl) hp10 (g := (mkF m 6 #[vi 0, vi 1, vr t1] [(.int 4), (.int 1), (.int 0)])) rfl (by rw [hml]; rfl) (argsL := [(.int 0), (.int 1), (.int 4)]) (rest := []) rfl (lenOf Zxa rfl) rfl (W := 0) (by show 2 * 0 + _ ≤ _; exact Nat.le_of_eq rfl) (hb hby W2) (by decide) (by decide) (by decide) (by decide) (by decide)
 obtain ⟨rfl, N11q, hp11⟩ := hQ11
 have N11 := Fr.app N10 N11q
 have k12 : Ab p e below m s₁ #[(.int 0), (.int 1), (.ref t1)] 3 T11 10 #[vi 0, vi 1, vr t1] [] := by
  intro t k
  refine k00 t ?_
  refine Pa X00 hx hby M2 rfl ?_
  refine Pa X00 hx hby R2 rfl ?_
  refine Va X00 hx hby U2 rfl rfl ?_
  refine st10 _ ?_
  refine st11 _ ?_
  refine XS.pop X11.here hx rfl (hb hby K3) rfl rfl ?_
  exact k
 exact Yg hNG hlk X11 hp11 (by decide) (by decide) (fun fs hr => k12 _ (X11.returnOut hx hret (hb hby Wy) hr)) ⟨rfl, N11, rfl⟩
theorem K9a (l : Launch) (Z : State) (a0 : Array Value) (hw : Pb a0 Z) (ws : List Jvm.Cond) (t0 t1 : Addr) (k0 k1 : ClassId) (b0 b1 b2 b3 : Int32) (Ra Ya Ia Ua Ka Ga Ma : Addr) (Da : Int32) (Aa : Value) (h0 : Heap) (n0 : Nat) (O0 : Old Z n0 h0) (hE : EV Z Ra Ya Ia Ua Ka Ga Ma Da Aa) (P0 : Arv Z h0 t0 k0 .byte (4 : Int32) [(.int b0), (.int b1), (.int b2), (.int b3)] (.int 0)) (P1 : Arv Z h0 t1 k1 .byte (8 : Int32) [(.int 0), (.int 0), (.int 0), (.int 0), (.int 0), (.int 0), (.int 0), (.int 0)] (.int 0)) (g_t1 : n0 ≤ t1) (nt : ¬ (t0 = t1)) :
   Ib l Rva (Jvm.Cond.code Rva jdk_52_method_86_code 6 none :: ws) (Hb 3 0 0 43) #[(.ref t0), (.int 0), (.ref t1), (.int 0), (.int 1)] Z h0 (fun v h L => v = none ∧ Fr n0 L ∧ Old Z n0 h ∧ Keep h0 h [t1] ∧ Arv Z h t1 k1 .byte (8 : Int32) [(.int (((b0 &&& (255 : Int32)) >>> ((0 : Int32) &&& 31)).toInt8.toInt32)), (.int (((b0 &&& (255 : Int32)) >>> ((8 : Int32) &&& 31)).toInt8.toInt32)), (.int 0), (.int 0), (.int 0), (.int 0), (.int 0), (.int 0)] (.int 0)) := by
 refine Db (plainFor_of_name Bb) n0 [t1] fun p e s m below meth c s₁ hx hby hml hown hnm hret hlk X00 e00 hZ N00 K00 hNG => ?_
 have k00 : Ab p e below m s₁ #[(.ref t0), (.int 0), (.ref t1), (.int 0), (.int 1)] 6 s₁ 0 #[vr t0, vi 0, vr t1, vi 0, vi 1, .unset] [] := fun t k => castTop (Gxa m t0 (0 : Int32) t1 (0 : Int32) (1 : Int32) ) k
 obtain ⟨v10, T10, Lc10, X10, hQ10, st10⟩ := Ub X00 hx hZ hown (rm_cb4 l Z a0 hw [] t1 k1 _ _ _ _ _ _ _ _ _ h0 n0 O0 hE P1 ) (Ba hw 100 rfl) (Ba hw 101 rfl) (Ba hw 87 rfl) (Ba hw 102 rfl) e00 (g := (mkF m 4 #[vr t0, vi 0, vr t1, vi 0, vi 1, .unset] [(.ref t1), (.int 1), (.int 0)])) rfl (by rw [hml]; rfl) (argsL := [(.int 0), (.int 1), (.ref t1)]) (rest := []) rfl (lenOf Hxa rfl) rfl (W := 0) (by show 2 * 0 + _ ≤ _; exact Nat.le_of_eq rfl) (hb hby U3) (by decide) (by decide) (by decide) (by decide) (by decide)
 obtain ⟨rfl, N10q, hp10⟩ := hQ10
 have N10 := Fr.app N00 N10q
 obtain ⟨cl11, Ar11, q11, Sz11, Nn11, Hs11, Gf11⟩ := id P0
 have hin12 := inb_of (j := 0) Sz11 ⟨by decide, by decide⟩
 have hat13 : cl11.slots[((0 : Int32)).toNatClampNeg]? = some (.int b0) := Hs11.at hin12 rfl
 obtain ⟨v14, T14, Lc14, X14, hQ14, st14⟩ := Ub X10 hx hZ hown (R5a l Z a0 hw [] t1 k1 (b0 &&& (255 : Int32)) (0 : Int32) (0 : Int32) (0 : Int32) (0 : Int32) (0 : Int32) (0 : Int32) (0 : Int32) (0 : Int32) _ _ _ _ _ _ _ _ _ h0 n0 O0 hE P1 g_t1 ) (Ba hw 114 rfl) (Ba hw 115 rfl) (Ba hw 87 rfl) (Ba hw 116 rfl) hp10 (g := (mkF m 32 #[vr t0, vi 1, vr t1, vi 1, vi 1, vi 0] [(.int (b0 &&& (255 : Int32))), (.int 0), (.ref t1)])) rfl (by rw [hml]; rfl) (argsL := [(.ref t1), (.int 0), (.int (b0 &&& (255 : Int32)))]) (rest := []) rfl (lenOf Go rfl) rfl (W := 0) (by show 2 * 0 + _ ≤ _; exact Nat.le_of_eq rfl) (hb hby Lz) (by decide) (by decide) (by decide) (by decide) (by decide)
 obtain ⟨rfl, N14q, O14, Kc14, F14_0⟩ := hQ14
 have N14 := Fr.app N10 N14q
 have K14 := K00.trans Kc14 (allS (Or.inl (List.mem_of_getElem? (i := 0) rfl)) all0)
 have k15 : Ab p e below m s₁ #[(.ref t0), (.int 0), (.ref t1), (.int 0), (.int 1)] 6 T14 41 #[vr t0, vi 1, vr t1, vi 1, vi 1, vi 1] [] := by
  intro t k
  refine k00 t ?_
  refine Pa X00 hx hby L3 rfl ?_
  refine Wa X00 hx hby M3 rfl ?_
  refine Va X00 hx hby R3 rfl rfl ?_
  refine st10 _ ?_
  refine XS.iconst X10.here hx rfl (hb hby V3) ?_
  refine XS.istore X10.here hx rfl (hb hby W3) rfl (l' := #[vr t0, vi 0, vr t1, vi 0, vi 1, vi 0]) rfl ?_
  refine Wa X10 hx hby Mi rfl ?_
  refine Wa X10 hx hby Pi rfl ?_
  refine XS.icmpNo X10.here hx rfl (hb hby Ri) rfl (tlt (by decide : (0 : Int32) < (1 : Int32))).2.1 ?_
  refine Va X10 hx hby Yy rfl rfl ?_
  refine Pa X10 hx hby Zy rfl ?_
  refine XS.iinc X10.here hx rfl (hb hby Az) rfl (l' := #[vr t0, vi 0, vr t1, vi ((0 : Int32) + (1 : Int32)), vi 1, vi 0]) rfl ?_
  rw [Mh]
  show Za p e below m T10 22 #[vr t0, vi 0, vr t1, vi 1, vi 1, vi 0] [(.int 0), (.ref t1)] t
  refine Va X10 hx hby Bz rfl rfl ?_
  refine Pa X10 hx hby Dz rfl ?_
  refine XS.iinc X10.here hx rfl (hb hby Gz) rfl (l' := #[vr t0, vi ((0 : Int32) + (1 : Int32)), vr t1, vi 1, vi 1, vi 0]) rfl ?_
  rw [Mh]
  refine X10.baloadBytes hx (j := 0) (v := (.int b0)) (by rw [hp10]; exact Ar11.1) (State.isArrayOf_alike hZ.alike Ar11.2.1) Ar11.2.2 hin12 hat13 (g := (mkF m 27 #[vr t0, vi 1, vr t1, vi 1, vi 1, vi 0] [(.int 0), (.ref t0), (.int 0), (.ref t1)])) rfl rfl (hb hby Hz) _ ?_
  refine XS.sipush X10.here hx rfl (hb hby Iz) ?_
  refine XS.iand X10.here hx rfl (hb hby Kz) rfl ?_
  refine st14 _ ?_
  refine XS.iinc X14.here hx rfl (hb hby Mz) rfl (l' := #[vr t0, vi 1, vr t1, vi 1, vi 1, vi ((0 : Int32) + (1 : Int32))]) rfl ?_
  rw [Mh]
  refine XS.goto X14.here hx rfl (pc0 := 38) (pc' := 10) rfl (hb hby Pz) (by decide) (by decide) ?_
  refine Wa X14 hx hby Mi rfl ?_
  refine Wa X14 hx hby Pi rfl ?_
  refine XS.icmpYes X14.here hx rfl (pc0 := 14) (pc' := 41) rfl (hb hby Ri) rfl (flt (by decide : ¬ ((1 : Int32) < (1 : Int32)))).2.1 (by decide) (by decide) ?_
  show Za p e below m T14 41 #[vr t0, vi 1, vr t1, vi 1, vi 1, vi 1] [] t
  exact k
 exact Yg hNG hlk X14 rfl (by decide) (by decide) (fun fs hr => k15 _ (X14.returnOut hx hret (hb hby Rz) hr)) ⟨rfl, N14, O14, K14, F14_0⟩
theorem I7a (l : Launch) (Z : State) (a0 : Array Value) (hw : Pb a0 Z) (ws : List Jvm.Cond) (t0 t1 : Addr) (k0 k1 : ClassId) (b0 b1 b2 b3 : Int32) (Ra Ya Ia Ua Ka Ga Ma : Addr) (Da : Int32) (Aa : Value) (h0 : Heap) (n0 : Nat) (O0 : Old Z n0 h0) (hE : EV Z Ra Ya Ia Ua Ka Ga Ma Da Aa) (P0 : Arv Z h0 t0 k0 .byte (4 : Int32) [(.int b0), (.int b1), (.int b2), (.int b3)] (.int 0)) (P1 : Arv Z h0 t1 k1 .byte (8 : Int32) [(.int 0), (.int 0), (.int 0), (.int 0), (.int 0), (.int 0), (.int 0), (.int 0)] (.int 0)) (g_t1 : n0 ≤ t1) (nt : ¬ (t0 = t1)) :
   Ib l Uva (Jvm.Cond.code Uva jdk_43_method_50_code 5 none :: ws) (Hb 4 0 0 60) #[(.ref t0), (.int 0), (.ref t1), (.int 0), (.int 1)] Z h0 (fun v h L => v = none ∧ Fr n0 L ∧ Old Z n0 h ∧ Keep h0 h [t1] ∧ Arv Z h t1 k1 .byte (8 : Int32) [(.int (((b0 &&& (255 : Int32)) >>> ((0 : Int32) &&& 31)).toInt8.toInt32)), (.int (((b0 &&& (255 : Int32)) >>> ((8 : Int32) &&& 31)).toInt8.toInt32)), (.int 0), (.int 0), (.int 0), (.int 0), (.int 0), (.int 0)] (.int 0)) := by
 refine Db (plainFor_of_name Ik) n0 [t1] fun p e s m below meth c s₁ hx hby hml hown hnm hret hlk X00 e00 hZ N00 K00 hNG => ?_
 have k00 : Ab p e below m s₁ #[(.ref t0), (.int 0), (.ref t1), (.int 0), (.int 1)] 5 s₁ 0 #[vr t0, vi 0, vr t1, vi 0, vi 1] [] := fun t k => castTop (Ixa m t0 (0 : Int32) t1 (0 : Int32) (1 : Int32) ) k
 obtain ⟨v10, T10, Lc10, X10, hQ10, st10⟩ := Ub X00 hx hZ hown (K9a l Z a0 hw [] t0 t1 k0 k1 b0 b1 b2 b3 _ _ _ _ _ _ _ _ _ h0 n0 O0 hE P0 P1 g_t1 nt) (Ba hw 97 rfl) (Ba hw 98 rfl) (Ba hw 87 rfl) (Ba hw 99 rfl) e00 (g := (mkF m 6 #[vr t0, vi 0, vr t1, vi 0, vi 1] [(.int 1), (.int 0), (.ref t1), (.int 0), (.ref t0)])) rfl (by rw [hml]; rfl) (argsL := [(.ref t0), (.int 0), (.ref t1), (.int 0), (.int 1)]) (rest := []) rfl (lenOf Uz rfl) rfl (W := 0) (by show 2 * 0 + _ ≤ _; exact Nat.le_of_eq rfl) (hb hby G4) (by decide) (by decide) (by decide) (by decide) (by decide)
 obtain ⟨rfl, N10q, O10, Kc10, F10_0⟩ := hQ10
 have N10 := Fr.app N00 N10q
 have K10 := K00.trans Kc10 (allS (Or.inl (List.mem_of_getElem? (i := 0) rfl)) all0)
 have k11 : Ab p e below m s₁ #[(.ref t0), (.int 0), (.ref t1), (.int 0), (.int 1)] 5 T10 9 #[vr t0, vi 0, vr t1, vi 0, vi 1] [] := by
  intro t k
  refine k00 t ?_
  refine Va X00 hx hby Y3 rfl rfl ?_
  refine Pa X00 hx hby Z3 rfl ?_
  refine Va X00 hx hby A4 rfl rfl ?_
  refine Pa X00 hx hby B4 rfl ?_
  refine Wa X00 hx hby D4 rfl ?_
  refine st10 _ ?_
  exact k
 exact Yg hNG hlk X10 rfl (by decide) (by decide) (fun fs hr => k11 _ (X10.returnOut hx hret (hb hby H4) hr)) ⟨rfl, N10, O10, K10, F10_0⟩
theorem L9a : ((10 : Int32) >>> ((1 : Int32) &&& 31)) = (5 : Int32) := by decide
theorem rm_ul5 (l : Launch) (Z : State) (a0 : Array Value) (hw : Pb a0 Z) (ws : List Jvm.Cond) (t1 : Addr) (k1 : ClassId) (Ra Ya Ia Ua Ka Ga Ma : Addr) (Da : Int32) (Aa : Value) (h0 : Heap) (n0 : Nat) (O0 : Old Z n0 h0) (hE : EV Z Ra Ya Ia Ua Ka Ga Ma Da Aa) (P0 : Arv Z h0 t1 k1 .byte (10 : Int32) [(.int 0), (.int 0), (.int 0), (.int 0), (.int 0), (.int 0), (.int 0), (.int 0), (.int 0), (.int 0)] (.int 0)) :
   Ib l Kva (Jvm.Cond.code Kva jdk_52_method_6_code 1 (some .int) :: ws) (Hb 0 0 0 0) #[(.ref t1)] Z h0 (fun v h L => v = some (.int 5) ∧ Fr n0 L ∧ h = h0) := by
 refine Db (plainFor_of_name Bb) n0 [] fun p e s m below meth c s₁ hx hby hml hown hnm hret hlk X00 e00 hZ N00 K00 hNG => ?_
 have k00 : Ab p e below m s₁ #[(.ref t1)] 1 s₁ 0 #[vr t1] [] := fun t k => castTop (Aba m t1 ) k
 obtain ⟨cl10, Ar10, q10, Sz10, Nn10, Hs10, Gf10⟩ := id P0
 have k11 : Ab p e below m s₁ #[(.ref t1)] 1 s₁ 4 #[vr t1] [(.int 5)] := by
  intro t k
  refine k00 t ?_
  refine Va X00 hx hby Y5 rfl rfl ?_
  refine X00.arraylength hx (by rw [e00]; exact Ar10.1) (State.isArrayOf_alike hZ.alike Ar10.2.1) (g := (mkF m 1 #[vr t1] [(.ref t1)])) rfl rfl (hb hby Z5) _ ?_
  rw [len_of Sz10 Nn10]
  refine XS.iconst X00.here hx rfl (hb hby A6) ?_
  refine XS.ishr X00.here hx rfl (hb hby B6) rfl ?_
  show Za p e below m s₁ 4 #[vr t1] [(.int ((10 : Int32) >>> ((1 : Int32) &&& 31)))] t
  rw [L9a]
  exact k
 exact Zb (.int 5) hNG hlk hret X00 e00 (by decide) (by decide) (fun fs hr => k11 _ (retOut X00 hx (t := .int) hret rfl (Or.inl ⟨rfl, Or.inl rfl, _, rfl⟩) (hb hby D6) hr)) ⟨rfl, N00, rfl⟩
theorem M9a : ((5 : Int32) ||| (0 : Int32)) = (5 : Int32) := by decide
theorem P9a : ((5 : Int32) ||| (1 : Int32)) = (5 : Int32) := by decide
theorem R9a : ((5 : Int32) - (0 : Int32)) = (5 : Int32) := by decide
theorem rm_f14 (l : Launch) (Z : State) (a0 : Array Value) (hw : Pb a0 Z) (ws : List Jvm.Cond) (Ra Ya Ia Ua Ka Ga Ma : Addr) (Da : Int32) (Aa : Value) (h0 : Heap) (n0 : Nat) (O0 : Old Z n0 h0) (hE : EV Z Ra Ya Ia Ua Ka Ga Ma Da Aa) :
   Ib l Lva (Jvm.Cond.code Lva jdk_41_method_13_code 4 (some .int) :: ws) (Hb 0 0 0 0) #[(.int 0), (.int 1), (.int 5), Aa] Z h0 (fun v h L => v = some (.int 0) ∧ Fr n0 L ∧ h = h0) := by
 refine Db (plainFor_of_name Ro) n0 [] fun p e s m below meth c s₁ hx hby hml hown hnm hret hlk X00 e00 hZ N00 K00 hNG => ?_
 obtain ⟨_, _, _, _, _, _, _, _, _, _, _, _, _, _, _, _, _, Bo, _⟩ := id hE
 have k00 : Ab p e below m s₁ #[(.int 0), (.int 1), (.int 5), Aa] 4 s₁ 0 #[vi 0, vi 1, vi 5, .val Aa] [] := fun t k => castTop (Yxa m (0 : Int32) (1 : Int32) (5 : Int32) Aa Bo) k
 have k10 : Ab p e below m s₁ #[(.int 0), (.int 1), (.int 5), Aa] 4 s₁ 24 #[vi 0, vi 1, vi 5, .val Aa] [(.int 0)] := by
  intro t k
  refine k00 t ?_
  refine Pa X00 hx hby Y2 rfl ?_
  refine Pa X00 hx hby Z2 rfl ?_
  refine XS.ior X00.here hx rfl (hb hby A3) rfl ?_
  show Za p e below m s₁ 3 #[vi 0, vi 1, vi 5, .val Aa] [(.int ((5 : Int32) ||| (0 : Int32)))] t
  rw [M9a]
  refine Pa X00 hx hby B3 rfl ?_
  refine XS.ior X00.here hx rfl (hb hby D3) rfl ?_
  show Za p e below m s₁ 5 #[vi 0, vi 1, vi 5, .val Aa] [(.int ((5 : Int32) ||| (1 : Int32)))] t
  rw [P9a]
  refine XS.ifNo X00.here hx rfl (hb hby G3) rfl ((if0 _ _).trans (flt (by decide : ¬ ((5 : Int32) < (0 : Int32)))).1) ?_
  refine Pa X00 hx hby H3 rfl ?_
  refine Pa X00 hx hby I3 rfl ?_
  refine Pa X00 hx hby Ly rfl ?_
  refine XS.isub X00.here hx rfl (hb hby My) rfl ?_
  show Za p e below m s₁ 12 #[vi 0, vi 1, vi 5, .val Aa] [(.int ((5 : Int32) - (0 : Int32))), (.int 1)] t
  rw [R9a]
  refine XS.icmpYes X00.here hx rfl (pc0 := 12) (pc' := 23) rfl (hb hby Py) rfl (flt (by decide : ¬ ((5 : Int32) < (1 : Int32)))).2.2.2 (by decide) (by decide) ?_
  refine Pa X00 hx hby Ry rfl ?_
  exact k
 exact Zb (.int 0) hNG hlk hret X00 e00 (by decide) (by decide) (fun fs hr => k10 _ (retOut X00 hx (t := .int) hret rfl (Or.inl ⟨rfl, Or.inl rfl, _, rfl⟩) (hb hby Uy) hr)) ⟨rfl, N00, rfl⟩
theorem rm_f13 (l : Launch) (Z : State) (a0 : Array Value) (hw : Pb a0 Z) (ws : List Jvm.Cond) (Ra Ya Ia Ua Ka Ga Ma : Addr) (Da : Int32) (Aa : Value) (h0 : Heap) (n0 : Nat) (O0 : Old Z n0 h0) (hE : EV Z Ra Ya Ia Ua Ka Ga Ma Da Aa) :
   Ib l Mva (Jvm.Cond.code Mva jdk_42_method_157_code 3 (some .int) :: ws) (Hb 1 0 0 15) #[(.int 0), (.int 1), (.int 5)] Z h0 (fun v h L => v = some (.int 0) ∧ Fr n0 L ∧ h = h0) := by
 refine Db (plainFor_of_name Mb) n0 [] fun p e s m below meth c s₁ hx hby hml hown hnm hret hlk X00 e00 hZ N00 K00 hNG => ?_
 have k00 : Ab p e below m s₁ #[(.int 0), (.int 1), (.int 5)] 3 s₁ 0 #[vi 0, vi 1, vi 5] [] := fun t k => castTop (Bca m (0 : Int32) (1 : Int32) (5 : Int32) ) k
 obtain ⟨_, _, _, _, _, _, _, _, _, _, _, _, _, _, _, _, Mo, _⟩ := id hE
 obtain ⟨T10, X10, e10, st10⟩ := getS2 X00 hx hZ hown (host := "") (Or.inl (Ba hw 109 rfl)) Via.refl e00 (Mo.ext O0.2) (g := (mkF m 3 #[vi 0, vi 1, vi 5] [(.int 5), (.int 1), (.int 0)])) rfl (hb hby Iy)
 obtain ⟨v11, T11, Lc11, X11, hQ11, st11⟩ := Ub X10 hx hZ hown (rm_f14 l Z a0 hw []  _ _ _ _ _ _ _ _ _ h0 n0 O0 hE ) (Ba hw 111 rfl) (Ba hw 112 rfl) (Ba hw 110 rfl) (Ba hw 113 rfl) e10 (g := (mkF m 6 #[vi 0, vi 1, vi 5] [Aa, (.int 5), (.int 1), (.int 0)])) rfl (by rw [hml]; rfl) (argsL := [(.int 0), (.int 1), (.int 5), Aa]) (rest := []) rfl (lenOf Gm rfl) rfl (W := 0) (by show 2 * 0 + _ ≤ _; exact Nat.le_of_eq rfl) (hb hby Ky) (by decide) (by decide) (by decide) (by decide) (by decide)
 obtain ⟨rfl, N11q, hp11⟩ := hQ11
 have N11 := Fr.app N00 N11q
 have k12 : Ab p e below m s₁ #[(.int 0), (.int 1), (.int 5)] 3 T11 9 #[vi 0, vi 1, vi 5] [(.int 0)] := by
  intro t k
  refine k00 t ?_
  refine Pa X00 hx hby Dy rfl ?_
  refine Pa X00 hx hby Gy rfl ?_
  refine Pa X00 hx hby Hy rfl ?_
  refine st10 _ ?_
  refine st11 _ ?_
  exact k
 exact Zb (.int 0) hNG hlk hret X11 hp11 (by decide) (by decide) (fun fs hr => k12 _ (retOut X11 hx (t := .int) hret rfl (Or.inl ⟨rfl, Or.inl rfl, _, rfl⟩) (hb hby Vy) hr)) ⟨rfl, N11, rfl⟩
theorem rm_cb5 (l : Launch) (Z : State) (a0 : Array Value) (hw : Pb a0 Z) (ws : List Jvm.Cond) (t1 : Addr) (k1 : ClassId) (Ra Ya Ia Ua Ka Ga Ma : Addr) (Da : Int32) (Aa : Value) (h0 : Heap) (n0 : Nat) (O0 : Old Z n0 h0) (hE : EV Z Ra Ya Ia Ua Ka Ga Ma Da Aa) (P0 : Arv Z h0 t1 k1 .byte (10 : Int32) [(.int 0), (.int 0), (.int 0), (.int 0), (.int 0), (.int 0), (.int 0), (.int 0), (.int 0), (.int 0)] (.int 0)) :
   Ib l Pva (Jvm.Cond.code Pva jdk_52_method_94_code 3 none :: ws) (Hb 2 0 0 29) #[(.int 0), (.int 1), (.ref t1)] Z h0 (fun v h L => v = none ∧ Fr n0 L ∧ h = h0) := by
 refine Db (plainFor_of_name Bb) n0 [] fun p e s m below meth c s₁ hx hby hml hown hnm hret hlk X00 e00 hZ N00 K00 hNG => ?_
 have k00 : Ab p e below m s₁ #[(.int 0), (.int 1), (.ref t1)] 3 s₁ 0 #[vi 0, vi 1, vr t1] [] := fun t k => castTop (G0a m (0 : Int32) (1 : Int32) t1 ) k
 obtain ⟨v10, T10, Lc10, X10, hQ10, st10⟩ := Ub X00 hx hZ hown (rm_ul5 l Z a0 hw [] t1 k1 _ _ _ _ _ _ _ _ _ h0 n0 O0 hE P0 ) (Ba hw 103 rfl) (Ba hw 104 rfl) (Ba hw 87 rfl) (Ba hw 105 rfl) e00 (g := (mkF m 3 #[vi 0, vi 1, vr t1] [(.ref t1), (.int 1), (.int 0)])) rfl (by rw [hml]; rfl) (argsL := [(.ref t1)]) (rest := [(.int 1), (.int 0)]) rfl (lenOf H0a rfl) rfl (W := 2) (by show 2 * 0 + _ ≤ _; exact Nat.le_of_eq rfl) (hb hby V2) (by decide) (by decide) (by decide) (by decide) (by decide)
 obtain ⟨rfl, N10q, hp10⟩ := hQ10
 have N10 := Fr.app N00 N10q
 obtain ⟨v11, T11, Lc11, X11, hQ11, st11⟩ := Ub X10 hx hZ hown (rm_f13 l Z a0 hw []  _ _ _ _ _ _ _ _ _ h0 n0 O0 hE ) (Ba hw 106 rfl) (Ba hw 107 rfl) (Ba hw 29 rfl) (Ba hw 108 rfl) hp10 (g := (mkF m 6 #[vi 0, vi 1, vr t1] [(.int 5), (.int 1), (.int 0)])) rfl (by rw [hml]; rfl) (argsL := [(.int 0), (.int 1), (.int 5)]) (rest := []) rfl (lenOf Zxa rfl) rfl (W := 0) (by show 2 * 0 + _ ≤ _; exact Nat.le_of_eq rfl) (hb hby W2) (by decide) (by decide) (by decide) (by decide) (by decide)
 obtain ⟨rfl, N11q, hp11⟩ := hQ11
 have N11 := Fr.app N10 N11q
 have k12 : Ab p e below m s₁ #[(.int 0), (.int 1), (.ref t1)] 3 T11 10 #[vi 0, vi 1, vr t1] [] := by
  intro t k
  refine k00 t ?_
  refine Pa X00 hx hby M2 rfl ?_
  refine Pa X00 hx hby R2 rfl ?_
  refine Va X00 hx hby U2 rfl rfl ?_
  refine st10 _ ?_
  refine st11 _ ?_
  refine XS.pop X11.here hx rfl (hb hby K3) rfl rfl ?_
  exact k
 exact Yg hNG hlk X11 hp11 (by decide) (by decide) (fun fs hr => k12 _ (X11.returnOut hx hret (hb hby Wy) hr)) ⟨rfl, N11, rfl⟩
theorem U9a (l : Launch) (Z : State) (a0 : Array Value) (hw : Pb a0 Z) (ws : List Jvm.Cond) (t0 t1 : Addr) (k0 k1 : ClassId) (b0 b1 b2 b3 b4 : Int32) (Ra Ya Ia Ua Ka Ga Ma : Addr) (Da : Int32) (Aa : Value) (h0 : Heap) (n0 : Nat) (O0 : Old Z n0 h0) (hE : EV Z Ra Ya Ia Ua Ka Ga Ma Da Aa) (P0 : Arv Z h0 t0 k0 .byte (5 : Int32) [(.int b0), (.int b1), (.int b2), (.int b3), (.int b4)] (.int 0)) (P1 : Arv Z h0 t1 k1 .byte (10 : Int32) [(.int 0), (.int 0), (.int 0), (.int 0), (.int 0), (.int 0), (.int 0), (.int 0), (.int 0), (.int 0)] (.int 0)) (g_t1 : n0 ≤ t1) (nt : ¬ (t0 = t1)) :
   Ib l Rva (Jvm.Cond.code Rva jdk_52_method_86_code 6 none :: ws) (Hb 3 0 0 43) #[(.ref t0), (.int 0), (.ref t1), (.int 0), (.int 1)] Z h0 (fun v h L => v = none ∧ Fr n0 L ∧ Old Z n0 h ∧ Keep h0 h [t1] ∧ Arv Z h t1 k1 .byte (10 : Int32) [(.int (((b0 &&& (255 : Int32)) >>> ((0 : Int32) &&& 31)).toInt8.toInt32)), (.int (((b0 &&& (255 : Int32)) >>> ((8 : Int32) &&& 31)).toInt8.toInt32)), (.int 0), (.int 0), (.int 0), (.int 0), (.int 0), (.int 0), (.int 0), (.int 0)] (.int 0)) := by
 refine Db (plainFor_of_name Bb) n0 [t1] fun p e s m below meth c s₁ hx hby hml hown hnm hret hlk X00 e00 hZ N00 K00 hNG => ?_
 have k00 : Ab p e below m s₁ #[(.ref t0), (.int 0), (.ref t1), (.int 0), (.int 1)] 6 s₁ 0 #[vr t0, vi 0, vr t1, vi 0, vi 1, .unset] [] := fun t k => castTop (Gxa m t0 (0 : Int32) t1 (0 : Int32) (1 : Int32) ) k
 obtain ⟨v10, T10, Lc10, X10, hQ10, st10⟩ := Ub X00 hx hZ hown (rm_cb5 l Z a0 hw [] t1 k1 _ _ _ _ _ _ _ _ _ h0 n0 O0 hE P1 ) (Ba hw 100 rfl) (Ba hw 101 rfl) (Ba hw 87 rfl) (Ba hw 102 rfl) e00 (g := (mkF m 4 #[vr t0, vi 0, vr t1, vi 0, vi 1, .unset] [(.ref t1), (.int 1), (.int 0)])) rfl (by rw [hml]; rfl) (argsL := [(.int 0), (.int 1), (.ref t1)]) (rest := []) rfl (lenOf Hxa rfl) rfl (W := 0) (by show 2 * 0 + _ ≤ _; exact Nat.le_of_eq rfl) (hb hby U3) (by decide) (by decide) (by decide) (by decide) (by decide)
 obtain ⟨rfl, N10q, hp10⟩ := hQ10
 have N10 := Fr.app N00 N10q
 obtain ⟨cl11, Ar11, q11, Sz11, Nn11, Hs11, Gf11⟩ := id P0
 have hin12 := inb_of (j := 0) Sz11 ⟨by decide, by decide⟩
 have hat13 : cl11.slots[((0 : Int32)).toNatClampNeg]? = some (.int b0) := Hs11.at hin12 rfl
 obtain ⟨v14, T14, Lc14, X14, hQ14, st14⟩ := Ub X10 hx hZ hown (V5a l Z a0 hw [] t1 k1 (b0 &&& (255 : Int32)) (0 : Int32) (0 : Int32) (0 : Int32) (0 : Int32) (0 : Int32) (0 : Int32) (0 : Int32) (0 : Int32) (0 : Int32) (0 : Int32) _ _ _ _ _ _ _ _ _ h0 n0 O0 hE P1 g_t1 ) (Ba hw 114 rfl) (Ba hw 115 rfl) (Ba hw 87 rfl) (Ba hw 116 rfl) hp10 (g := (mkF m 32 #[vr t0, vi 1, vr t1, vi 1, vi 1, vi 0] [(.int (b0 &&& (255 : Int32))), (.int 0), (.ref t1)])) rfl (by rw [hml]; rfl) (argsL := [(.ref t1), (.int 0), (.int (b0 &&& (255 : Int32)))]) (rest := []) rfl (lenOf Go rfl) rfl (W := 0) (by show 2 * 0 + _ ≤ _; exact Nat.le_of_eq rfl) (hb hby Lz) (by decide) (by decide) (by decide) (by decide) (by decide)
 obtain ⟨rfl, N14q, O14, Kc14, F14_0⟩ := hQ14
 have N14 := Fr.app N10 N14q
 have K14 := K00.trans Kc14 (allS (Or.inl (List.mem_of_getElem? (i := 0) rfl)) all0)
 have k15 : Ab p e below m s₁ #[(.ref t0), (.int 0), (.ref t1), (.int 0), (.int 1)] 6 T14 41 #[vr t0, vi 1, vr t1, vi 1, vi 1, vi 1] [] := by
  intro t k
  refine k00 t ?_
  refine Pa X00 hx hby L3 rfl ?_
  refine Wa X00 hx hby M3 rfl ?_
  refine Va X00 hx hby R3 rfl rfl ?_
  refine st10 _ ?_
  refine XS.iconst X10.here hx rfl (hb hby V3) ?_
  refine XS.istore X10.here hx rfl (hb hby W3) rfl (l' := #[vr t0, vi 0, vr t1, vi 0, vi 1, vi 0]) rfl ?_
  refine Wa X10 hx hby Mi rfl ?_
  refine Wa X10 hx hby Pi rfl ?_
  refine XS.icmpNo X10.here hx rfl (hb hby Ri) rfl (tlt (by decide : (0 : Int32) < (1 : Int32))).2.1 ?_
  refine Va X10 hx hby Yy rfl rfl ?_
  refine Pa X10 hx hby Zy rfl ?_
  refine XS.iinc X10.here hx rfl (hb hby Az) rfl (l' := #[vr t0, vi 0, vr t1, vi ((0 : Int32) + (1 : Int32)), vi 1, vi 0]) rfl ?_
  rw [Mh]
  show Za p e below m T10 22 #[vr t0, vi 0, vr t1, vi 1, vi 1, vi 0] [(.int 0), (.ref t1)] t
  refine Va X10 hx hby Bz rfl rfl ?_
  refine Pa X10 hx hby Dz rfl ?_
  refine XS.iinc X10.here hx rfl (hb hby Gz) rfl (l' := #[vr t0, vi ((0 : Int32) + (1 : Int32)), vr t1, vi 1, vi 1, vi 0]) rfl ?_
  rw [Mh]
  refine X10.baloadBytes hx (j := 0) (v := (.int b0)) (by rw [hp10]; exact Ar11.1) (State.isArrayOf_alike hZ.alike Ar11.2.1) Ar11.2.2 hin12 hat13 (g := (mkF m 27 #[vr t0, vi 1, vr t1, vi 1, vi 1, vi 0] [(.int 0), (.ref t0), (.int 0), (.ref t1)])) rfl rfl (hb hby Hz) _ ?_
  refine XS.sipush X10.here hx rfl (hb hby Iz) ?_
  refine XS.iand X10.here hx rfl (hb hby Kz) rfl ?_
  refine st14 _ ?_
  refine XS.iinc X14.here hx rfl (hb hby Mz) rfl (l' := #[vr t0, vi 1, vr t1, vi 1, vi 1, vi ((0 : Int32) + (1 : Int32))]) rfl ?_
  rw [Mh]
  refine XS.goto X14.here hx rfl (pc0 := 38) (pc' := 10) rfl (hb hby Pz) (by decide) (by decide) ?_
  refine Wa X14 hx hby Mi rfl ?_
  refine Wa X14 hx hby Pi rfl ?_
  refine XS.icmpYes X14.here hx rfl (pc0 := 14) (pc' := 41) rfl (hb hby Ri) rfl (flt (by decide : ¬ ((1 : Int32) < (1 : Int32)))).2.1 (by decide) (by decide) ?_
  show Za p e below m T14 41 #[vr t0, vi 1, vr t1, vi 1, vi 1, vi 1] [] t
  exact k
 exact Yg hNG hlk X14 rfl (by decide) (by decide) (fun fs hr => k15 _ (X14.returnOut hx hret (hb hby Rz) hr)) ⟨rfl, N14, O14, K14, F14_0⟩
theorem K7a (l : Launch) (Z : State) (a0 : Array Value) (hw : Pb a0 Z) (ws : List Jvm.Cond) (t0 t1 : Addr) (k0 k1 : ClassId) (b0 b1 b2 b3 b4 : Int32) (Ra Ya Ia Ua Ka Ga Ma : Addr) (Da : Int32) (Aa : Value) (h0 : Heap) (n0 : Nat) (O0 : Old Z n0 h0) (hE : EV Z Ra Ya Ia Ua Ka Ga Ma Da Aa) (P0 : Arv Z h0 t0 k0 .byte (5 : Int32) [(.int b0), (.int b1), (.int b2), (.int b3), (.int b4)] (.int 0)) (P1 : Arv Z h0 t1 k1 .byte (10 : Int32) [(.int 0), (.int 0), (.int 0), (.int 0), (.int 0), (.int 0), (.int 0), (.int 0), (.int 0), (.int 0)] (.int 0)) (g_t1 : n0 ≤ t1) (nt : ¬ (t0 = t1)) :
   Ib l Uva (Jvm.Cond.code Uva jdk_43_method_50_code 5 none :: ws) (Hb 4 0 0 60) #[(.ref t0), (.int 0), (.ref t1), (.int 0), (.int 1)] Z h0 (fun v h L => v = none ∧ Fr n0 L ∧ Old Z n0 h ∧ Keep h0 h [t1] ∧ Arv Z h t1 k1 .byte (10 : Int32) [(.int (((b0 &&& (255 : Int32)) >>> ((0 : Int32) &&& 31)).toInt8.toInt32)), (.int (((b0 &&& (255 : Int32)) >>> ((8 : Int32) &&& 31)).toInt8.toInt32)), (.int 0), (.int 0), (.int 0), (.int 0), (.int 0), (.int 0), (.int 0), (.int 0)] (.int 0)) := by
 refine Db (plainFor_of_name Ik) n0 [t1] fun p e s m below meth c s₁ hx hby hml hown hnm hret hlk X00 e00 hZ N00 K00 hNG => ?_
 have k00 : Ab p e below m s₁ #[(.ref t0), (.int 0), (.ref t1), (.int 0), (.int 1)] 5 s₁ 0 #[vr t0, vi 0, vr t1, vi 0, vi 1] [] := fun t k => castTop (Ixa m t0 (0 : Int32) t1 (0 : Int32) (1 : Int32) ) k
 obtain ⟨v10, T10, Lc10, X10, hQ10, st10⟩ := Ub X00 hx hZ hown (U9a l Z a0 hw [] t0 t1 k0 k1 b0 b1 b2 b3 b4 _ _ _ _ _ _ _ _ _ h0 n0 O0 hE P0 P1 g_t1 nt) (Ba hw 97 rfl) (Ba hw 98 rfl) (Ba hw 87 rfl) (Ba hw 99 rfl) e00 (g := (mkF m 6 #[vr t0, vi 0, vr t1, vi 0, vi 1] [(.int 1), (.int 0), (.ref t1), (.int 0), (.ref t0)])) rfl (by rw [hml]; rfl) (argsL := [(.ref t0), (.int 0), (.ref t1), (.int 0), (.int 1)]) (rest := []) rfl (lenOf Uz rfl) rfl (W := 0) (by show 2 * 0 + _ ≤ _; exact Nat.le_of_eq rfl) (hb hby G4) (by decide) (by decide) (by decide) (by decide) (by decide)
 obtain ⟨rfl, N10q, O10, Kc10, F10_0⟩ := hQ10
 have N10 := Fr.app N00 N10q
 have K10 := K00.trans Kc10 (allS (Or.inl (List.mem_of_getElem? (i := 0) rfl)) all0)
 have k11 : Ab p e below m s₁ #[(.ref t0), (.int 0), (.ref t1), (.int 0), (.int 1)] 5 T10 9 #[vr t0, vi 0, vr t1, vi 0, vi 1] [] := by
  intro t k
  refine k00 t ?_
  refine Va X00 hx hby Y3 rfl rfl ?_
  refine Pa X00 hx hby Z3 rfl ?_
  refine Va X00 hx hby A4 rfl rfl ?_
  refine Pa X00 hx hby B4 rfl ?_
  refine Wa X00 hx hby D4 rfl ?_
  refine st10 _ ?_
  exact k
 exact Yg hNG hlk X10 rfl (by decide) (by decide) (fun fs hr => k11 _ (X10.returnOut hx hret (hb hby H4) hr)) ⟨rfl, N10, O10, K10, F10_0⟩
abbrev Ih : ByteArray := jdk_42_method_29_code
theorem Yqa : decode Ih 0 = .ok (.iload_n 0, 1) := by decide +kernel
theorem Zqa : decode Ih 1 = .ok (.sipush 192, 3) := by decide +kernel
theorem Ara : decode Ih 4 = .ok (.iand, 1) := by decide +kernel
theorem Bra : decode Ih 5 = .ok (.sipush 128, 3) := by decide +kernel
theorem Dra : decode Ih 8 = .ok (.if_icmp .eq 7, 3) := by decide +kernel
theorem Hla : decode Ih 15 = .ok (.iconst 0, 1) := by decide +kernel
theorem Ila : decode Ih 16 = .ok (.ireturn, 1) := by decide +kernel
abbrev W2a : MethodName := ⟨"java/lang/String", "isNotContinuation", "(I)Z"⟩
theorem rm_ncn (l : Launch) (Z : State) (a0 : Array Value) (hw : Pb a0 Z) (ws : List Jvm.Cond) (b2 : Int32) (Ra Ya Ia Ua Ka Ga Ma : Addr) (Da : Int32) (Aa : Value) (h0 : Heap) (n0 : Nat) (O0 : Old Z n0 h0) (hE : EV Z Ra Ya Ia Ua Ka Ga Ma Da Aa) (mc : (b2 &&& (192 : Int32)) = (128 : Int32)) :
   Ib l W2a (Jvm.Cond.code W2a jdk_42_method_29_code 1 (some .boolean) :: ws) (Hb 0 0 0 0) #[(.int b2)] Z h0 (fun v h L => v = some (.int 0) ∧ Fr n0 L ∧ h = h0) := by
 refine Db (plainFor_of_name Mb) n0 [] fun p e s m below meth c s₁ hx hby hml hown hnm hret hlk X00 e00 hZ N00 K00 hNG => ?_
 have k00 : Ab p e below m s₁ #[(.int b2)] 1 s₁ 0 #[vi b2] [] := fun t k => castTop (K6 m b2 ) k
 have k10 : Ab p e below m s₁ #[(.int b2)] 1 s₁ 16 #[vi b2] [(.int 0)] := by
  intro t k
  refine k00 t ?_
  refine Pa X00 hx hby Yqa rfl ?_
  refine XS.sipush X00.here hx rfl (hb hby Zqa) ?_
  refine XS.iand X00.here hx rfl (hb hby Ara) rfl ?_
  refine XS.sipush X00.here hx rfl (hb hby Bra) ?_
  refine XS.icmpYes X00.here hx rfl (pc0 := 8) (pc' := 15) rfl (hb hby Dra) rfl (teq mc).1 (by decide) (by decide) ?_
  refine XS.iconst X00.here hx rfl (hb hby Hla) ?_
  exact k
 exact Zb (.int 0) hNG hlk hret X00 e00 (by decide) (by decide) (fun fs hr => k10 _ (retN X00 hx (t := .boolean) hret (by simp) (hb hby Ila) hr)) ⟨rfl, N00, rfl⟩
abbrev Gc : ByteArray := jdk_42_method_30_code
theorem Gra : decode Gc 0 = .ok (.iload_n 0, 1) := by decide +kernel
theorem Hra : decode Gc 1 = .ok (.bipush (-32), 2) := by decide +kernel
theorem Vaa : decode Gc 3 = .ok (.if_icmp .ne 14, 3) := by decide +kernel
theorem Ira : decode Gc 6 = .ok (.iload_n 1, 1) := by decide +kernel
theorem Kra : decode Gc 7 = .ok (.sipush 224, 3) := by decide +kernel
theorem Kla : decode Gc 10 = .ok (.iand, 1) := by decide +kernel
theorem Lla : decode Gc 11 = .ok (.sipush 128, 3) := by decide +kernel
theorem Mla : decode Gc 14 = .ok (.if_icmp .eq 25, 3) := by decide +kernel
theorem B8 : decode Gc 17 = .ok (.iload_n 1, 1) := by decide +kernel
theorem D8 : decode Gc 18 = .ok (.sipush 192, 3) := by decide +kernel
theorem G8 : decode Gc 21 = .ok (.iand, 1) := by decide +kernel
theorem H8 : decode Gc 22 = .ok (.sipush 128, 3) := by decide +kernel
theorem I8 : decode Gc 25 = .ok (.if_icmp .ne 14, 3) := by decide +kernel
theorem K8 : decode Gc 28 = .ok (.iload_n 2, 1) := by decide +kernel
theorem L8 : decode Gc 29 = .ok (.sipush 192, 3) := by decide +kernel
theorem M8 : decode Gc 32 = .ok (.iand, 1) := by decide +kernel
theorem P8 : decode Gc 33 = .ok (.sipush 128, 3) := by decide +kernel
theorem R8 : decode Gc 36 = .ok (.if_icmp .eq 7, 3) := by decide +kernel
theorem U8 : decode Gc 43 = .ok (.iconst 0, 1) := by decide +kernel
theorem V8 : decode Gc 44 = .ok (.ireturn, 1) := by decide +kernel
abbrev Y2a : MethodName := ⟨"java/lang/String", "isMalformed3", "(III)Z"⟩
theorem rm_mf3 (l : Launch) (Z : State) (a0 : Array Value) (hw : Pb a0 Z) (ws : List Jvm.Cond) (b1 b2 b3 : Int32) (Ra Ya Ia Ua Ka Ga Ma : Addr) (Da : Int32) (Aa : Value) (h0 : Heap) (n0 : Nat) (O0 : Old Z n0 h0) (hE : EV Z Ra Ya Ia Ua Ka Ga Ma Da Aa) (hov : b1 = (-32 : Int32) → ¬ ((b2 &&& (224 : Int32)) = (128 : Int32))) (mc : (b2 &&& (192 : Int32)) = (128 : Int32)) (md : (b3 &&& (192 : Int32)) = (128 : Int32)) :
   Ib l Y2a (Jvm.Cond.code Y2a jdk_42_method_30_code 3 (some .boolean) :: ws) (Hb 0 0 0 0) #[(.int b1), (.int b2), (.int b3)] Z h0 (fun v h L => v = some (.int 0) ∧ Fr n0 L ∧ h = h0) := by
 refine Db (plainFor_of_name Mb) n0 [] fun p e s m below meth c s₁ hx hby hml hown hnm hret hlk X00 e00 hZ N00 K00 hNG => ?_
 have k00 : Ab p e below m s₁ #[(.int b1), (.int b2), (.int b3)] 3 s₁ 0 #[vi b1, vi b2, vi b3] [] := fun t k => castTop (Bca m b1 b2 b3 ) k
 have k10 : Ab p e below m s₁ #[(.int b1), (.int b2), (.int b3)] 3 s₁ 3 #[vi b1, vi b2, vi b3] [(.int (-32)), (.int b1)] := by
  intro t k
  refine k00 t ?_
  refine Pa X00 hx hby Gra rfl ?_
  refine XS.bipush X00.here hx rfl (hb hby Hra) ?_
  exact k
 by_cases hc11 : b1 = (-32 : Int32)
 · have k12 : Ab p e below m s₁ #[(.int b1), (.int b2), (.int b3)] 3 s₁ 44 #[vi b1, vi b2, vi b3] [(.int 0)] := by
    intro t k
    refine k10 t ?_
    refine XS.icmpNo X00.here hx rfl (hb hby Vaa) rfl (teq hc11).2 ?_
    refine Pa X00 hx hby Ira rfl ?_
    refine XS.sipush X00.here hx rfl (hb hby Kra) ?_
    refine XS.iand X00.here hx rfl (hb hby Kla) rfl ?_
    refine XS.sipush X00.here hx rfl (hb hby Lla) ?_
    refine XS.icmpNo X00.here hx rfl (hb hby Mla) rfl (feq (hov hc11)).1 ?_
    refine Pa X00 hx hby B8 rfl ?_
    refine XS.sipush X00.here hx rfl (hb hby D8) ?_
    refine XS.iand X00.here hx rfl (hb hby G8) rfl ?_
    refine XS.sipush X00.here hx rfl (hb hby H8) ?_
    refine XS.icmpNo X00.here hx rfl (hb hby I8) rfl (teq mc).2 ?_
    refine Pa X00 hx hby K8 rfl ?_
    show Za p e below m s₁ 29 #[vi b1, vi b2, vi b3] [(.int b3)] t
    refine XS.sipush X00.here hx rfl (hb hby L8) ?_
    refine XS.iand X00.here hx rfl (hb hby M8) rfl ?_
    refine XS.sipush X00.here hx rfl (hb hby P8) ?_
    refine XS.icmpYes X00.here hx rfl (pc0 := 36) (pc' := 43) rfl (hb hby R8) rfl (teq md).1 (by decide) (by decide) ?_
    refine XS.iconst X00.here hx rfl (hb hby U8) ?_
    exact k
   exact Zb (.int 0) hNG hlk hret X00 e00 (by decide) (by decide) (fun fs hr => k12 _ (retN X00 hx (t := .boolean) hret (by simp) (hb hby V8) hr)) ⟨rfl, N00, rfl⟩
 · have k13 : Ab p e below m s₁ #[(.int b1), (.int b2), (.int b3)] 3 s₁ 44 #[vi b1, vi b2, vi b3] [(.int 0)] := by
    intro t k
    refine k10 t ?_
    refine XS.icmpYes X00.here hx rfl (pc0 := 3) (pc' := 17) rfl (hb hby Vaa) rfl (feq hc11).2 (by decide) (by decide) ?_
    refine Pa X00 hx hby B8 rfl ?_
    refine XS.sipush X00.here hx rfl (hb hby D8) ?_
    refine XS.iand X00.here hx rfl (hb hby G8) rfl ?_
    refine XS.sipush X00.here hx rfl (hb hby H8) ?_
    refine XS.icmpNo X00.here hx rfl (hb hby I8) rfl (teq mc).2 ?_
    refine Pa X00 hx hby K8 rfl ?_
    refine XS.sipush X00.here hx rfl (hb hby L8) ?_
    refine XS.iand X00.here hx rfl (hb hby M8) rfl ?_
    refine XS.sipush X00.here hx rfl (hb hby P8) ?_
    refine XS.icmpYes X00.here hx rfl (pc0 := 36) (pc' := 43) rfl (hb hby R8) rfl (teq md).1 (by decide) (by decide) ?_
    refine XS.iconst X00.here hx rfl (hb hby U8) ?_
    show Za p e below m s₁ 44 #[vi b1, vi b2, vi b3] [(.int 0)] t
    exact k
   exact Zb (.int 0) hNG hlk hret X00 e00 (by decide) (by decide) (fun fs hr => k13 _ (retN X00 hx (t := .boolean) hret (by simp) (hb hby V8) hr)) ⟨rfl, N00, rfl⟩
abbrev Wg : ByteArray := jdk_89_method_16_code
theorem Lra : decode Wg 0 = .ok (.iload_n 0, 1) := by decide +kernel
theorem Mra : decode Wg 1 = .ok (.ldc 75, 2) := by decide +kernel
theorem Waa : decode Wg 3 = .ok (.if_icmp .lt 13, 3) := by decide +kernel
theorem W8 : decode Wg 16 = .ok (.iconst 0, 1) := by decide +kernel
theorem Y8 : decode Wg 17 = .ok (.ireturn, 1) := by decide +kernel
theorem Pra : decode Wg 6 = .ok (.iload_n 0, 1) := by decide +kernel
theorem Rra : decode Wg 7 = .ok (.ldc 77, 2) := by decide +kernel
theorem Ura : decode Wg 9 = .ok (.if_icmp .ge 7, 3) := by decide +kernel
theorem Mv : plainName "java/lang/Character" = true := by first | (simp [plainName, overriddenIn]; done) | decide +kernel
abbrev Z2a : MethodName := ⟨"java/lang/Character", "isSurrogate", "(C)Z"⟩
theorem rm_sur (l : Launch) (Z : State) (a0 : Array Value) (hw : Pb a0 Z) (ws : List Jvm.Cond) (q0 : Int32) (Ra Ya Ia Ua Ka Ga Ma : Addr) (Da : Int32) (Aa : Value) (h0 : Heap) (n0 : Nat) (O0 : Old Z n0 h0) (hE : EV Z Ra Ya Ia Ua Ka Ga Ma Da Aa) (hs : ¬ (q0 < (55296 : Int32)) → ¬ (q0 < (57344 : Int32))) :
   Ib l Z2a (Jvm.Cond.code Z2a jdk_89_method_16_code 1 (some .boolean) :: ws) (Hb 0 0 0 0) #[(.int q0)] Z h0 (fun v h L => v = some (.int 0) ∧ Fr n0 L ∧ h = h0) := by
 refine Db (plainFor_of_name Mv) n0 [] fun p e s m below meth c s₁ hx hby hml hown hnm hret hlk X00 e00 hZ N00 K00 hNG => ?_
 have k00 : Ab p e below m s₁ #[(.int q0)] 1 s₁ 0 #[vi q0] [] := fun t k => castTop (K6 m q0 ) k
 have k10 : Ab p e below m s₁ #[(.int q0)] 1 s₁ 3 #[vi q0] [(.int 55296), (.int q0)] := by
  intro t k
  refine k00 t ?_
  refine Pa X00 hx hby Lra rfl ?_
  refine X00.ldcI hx hown (mvT hZ (Ba hw 217 rfl)) rfl (hb hby Mra) ?_
  exact k
 by_cases hc11 : q0 < (55296 : Int32)
 · have k12 : Ab p e below m s₁ #[(.int q0)] 1 s₁ 17 #[vi q0] [(.int 0)] := by
    intro t k
    refine k10 t ?_
    refine XS.icmpYes X00.here hx rfl (pc0 := 3) (pc' := 16) rfl (hb hby Waa) rfl (tlt hc11).1 (by decide) (by decide) ?_
    refine XS.iconst X00.here hx rfl (hb hby W8) ?_
    exact k
   exact Zb (.int 0) hNG hlk hret X00 e00 (by decide) (by decide) (fun fs hr => k12 _ (retN X00 hx (t := .boolean) hret (by simp) (hb hby Y8) hr)) ⟨rfl, N00, rfl⟩
 · have k13 : Ab p e below m s₁ #[(.int q0)] 1 s₁ 17 #[vi q0] [(.int 0)] := by
    intro t k
    refine k10 t ?_
    refine XS.icmpNo X00.here hx rfl (hb hby Waa) rfl (flt hc11).1 ?_
    refine Pa X00 hx hby Pra rfl ?_
    refine X00.ldcI hx hown (mvT hZ (Ba hw 218 rfl)) rfl (hb hby Rra) ?_
    refine XS.icmpYes X00.here hx rfl (pc0 := 9) (pc' := 16) rfl (hb hby Ura) rfl (flt (hs hc11)).2.1 (by decide) (by decide) ?_
    refine XS.iconst X00.here hx rfl (hb hby W8) ?_
    exact k
   exact Zb (.int 0) hNG hlk hret X00 e00 (by decide) (by decide) (fun fs hr => k13 _ (retN X00 hx (t := .boolean) hret (by simp) (hb hby Y8) hr)) ⟨rfl, N00, rfl⟩
abbrev Pc : ByteArray := jdk_42_method_32_code
theorem Vra : decode Pc 0 = .ok (.iload_n 0, 1) := by decide +kernel
theorem Wra : decode Pc 1 = .ok (.sipush 192, 3) := by decide +kernel
theorem Yra : decode Pc 4 = .ok (.iand, 1) := by decide +kernel
theorem Zra : decode Pc 5 = .ok (.sipush 128, 3) := by decide +kernel
theorem Asa : decode Pc 8 = .ok (.if_icmp .ne 25, 3) := by decide +kernel
theorem Pla : decode Pc 11 = .ok (.iload_n 1, 1) := by decide +kernel
theorem Rla : decode Pc 12 = .ok (.sipush 192, 3) := by decide +kernel
theorem Ula : decode Pc 15 = .ok (.iand, 1) := by decide +kernel
theorem Vla : decode Pc 16 = .ok (.sipush 128, 3) := by decide +kernel
theorem Wla : decode Pc 19 = .ok (.if_icmp .ne 14, 3) := by decide +kernel
theorem Yla : decode Pc 22 = .ok (.iload_n 2, 1) := by decide +kernel
theorem Zla : decode Pc 23 = .ok (.sipush 192, 3) := by decide +kernel
theorem Ama : decode Pc 26 = .ok (.iand, 1) := by decide +kernel
theorem Bma : decode Pc 27 = .ok (.sipush 128, 3) := by decide +kernel
theorem Dma : decode Pc 30 = .ok (.if_icmp .eq 7, 3) := by decide +kernel
theorem Gma : decode Pc 37 = .ok (.iconst 0, 1) := by decide +kernel
theorem Hma : decode Pc 38 = .ok (.ireturn, 1) := by decide +kernel
abbrev A3a : MethodName := ⟨"java/lang/String", "isMalformed4", "(III)Z"⟩
theorem rm_mf4 (l : Launch) (Z : State) (a0 : Array Value) (hw : Pb a0 Z) (ws : List Jvm.Cond) (b2 b3 b4 : Int32) (Ra Ya Ia Ua Ka Ga Ma : Addr) (Da : Int32) (Aa : Value) (h0 : Heap) (n0 : Nat) (O0 : Old Z n0 h0) (hE : EV Z Ra Ya Ia Ua Ka Ga Ma Da Aa) (mc : (b2 &&& (192 : Int32)) = (128 : Int32)) (md : (b3 &&& (192 : Int32)) = (128 : Int32)) (me : (b4 &&& (192 : Int32)) = (128 : Int32)) :
   Ib l A3a (Jvm.Cond.code A3a jdk_42_method_32_code 3 (some .boolean) :: ws) (Hb 0 0 0 0) #[(.int b2), (.int b3), (.int b4)] Z h0 (fun v h L => v = some (.int 0) ∧ Fr n0 L ∧ h = h0) := by
 refine Db (plainFor_of_name Mb) n0 [] fun p e s m below meth c s₁ hx hby hml hown hnm hret hlk X00 e00 hZ N00 K00 hNG => ?_
 have k00 : Ab p e below m s₁ #[(.int b2), (.int b3), (.int b4)] 3 s₁ 0 #[vi b2, vi b3, vi b4] [] := fun t k => castTop (Bca m b2 b3 b4 ) k
 have k10 : Ab p e below m s₁ #[(.int b2), (.int b3), (.int b4)] 3 s₁ 38 #[vi b2, vi b3, vi b4] [(.int 0)] := by
  intro t k
  refine k00 t ?_
  refine Pa X00 hx hby Vra rfl ?_
  refine XS.sipush X00.here hx rfl (hb hby Wra) ?_
  refine XS.iand X00.here hx rfl (hb hby Yra) rfl ?_
  refine XS.sipush X00.here hx rfl (hb hby Zra) ?_
  refine XS.icmpNo X00.here hx rfl (hb hby Asa) rfl (teq mc).2 ?_
  refine Pa X00 hx hby Pla rfl ?_
  refine XS.sipush X00.here hx rfl (hb hby Rla) ?_
  refine XS.iand X00.here hx rfl (hb hby Ula) rfl ?_
  refine XS.sipush X00.here hx rfl (hb hby Vla) ?_
  refine XS.icmpNo X00.here hx rfl (hb hby Wla) rfl (teq md).2 ?_
  refine Pa X00 hx hby Yla rfl ?_
  refine XS.sipush X00.here hx rfl (hb hby Zla) ?_
  show Za p e below m s₁ 26 #[vi b2, vi b3, vi b4] [(.int 192), (.int b4)] t
  refine XS.iand X00.here hx rfl (hb hby Ama) rfl ?_
  refine XS.sipush X00.here hx rfl (hb hby Bma) ?_
  refine XS.icmpYes X00.here hx rfl (pc0 := 30) (pc' := 37) rfl (hb hby Dma) rfl (teq me).1 (by decide) (by decide) ?_
  refine XS.iconst X00.here hx rfl (hb hby Gma) ?_
  exact k
 exact Zb (.int 0) hNG hlk hret X00 e00 (by decide) (by decide) (fun fs hr => k10 _ (retN X00 hx (t := .boolean) hret (by simp) (hb hby Hma) hr)) ⟨rfl, N00, rfl⟩
abbrev Yf : ByteArray := jdk_89_method_13_code
theorem Bsa : decode Yf 0 = .ok (.iload_n 0, 1) := by decide +kernel
theorem Dsa : decode Yf 1 = .ok (.ldc 73, 2) := by decide +kernel
theorem Gsa : decode Yf 3 = .ok (.if_icmp .lt 13, 3) := by decide +kernel
theorem Hsa : decode Yf 6 = .ok (.iload_n 0, 1) := by decide +kernel
theorem Isa : decode Yf 7 = .ok (.ldc 74, 2) := by decide +kernel
theorem Ksa : decode Yf 9 = .ok (.if_icmp .ge 7, 3) := by decide +kernel
theorem Ima : decode Yf 12 = .ok (.iconst 1, 1) := by decide +kernel
theorem Kma : decode Yf 13 = .ok (.goto 4, 3) := by decide +kernel
theorem Lma : decode Yf 17 = .ok (.ireturn, 1) := by decide +kernel
abbrev B3a : MethodName := ⟨"java/lang/Character", "isSupplementaryCodePoint", "(I)Z"⟩
theorem rm_sup (l : Launch) (Z : State) (a0 : Array Value) (hw : Pb a0 Z) (ws : List Jvm.Cond) (q0 : Int32) (Ra Ya Ia Ua Ka Ga Ma : Addr) (Da : Int32) (Aa : Value) (h0 : Heap) (n0 : Nat) (O0 : Old Z n0 h0) (hE : EV Z Ra Ya Ia Ua Ka Ga Ma Da Aa) (h1 : ¬ (q0 < (65536 : Int32))) (h2 : q0 < (1114112 : Int32)) :
   Ib l B3a (Jvm.Cond.code B3a jdk_89_method_13_code 1 (some .boolean) :: ws) (Hb 0 0 0 0) #[(.int q0)] Z h0 (fun v h L => v = some (.int 1) ∧ Fr n0 L ∧ h = h0) := by
 refine Db (plainFor_of_name Mv) n0 [] fun p e s m below meth c s₁ hx hby hml hown hnm hret hlk X00 e00 hZ N00 K00 hNG => ?_
 have k00 : Ab p e below m s₁ #[(.int q0)] 1 s₁ 0 #[vi q0] [] := fun t k => castTop (K6 m q0 ) k
 have k10 : Ab p e below m s₁ #[(.int q0)] 1 s₁ 17 #[vi q0] [(.int 1)] := by
  intro t k
  refine k00 t ?_
  refine Pa X00 hx hby Bsa rfl ?_
  refine X00.ldcI hx hown (mvT hZ (Ba hw 134 rfl)) rfl (hb hby Dsa) ?_
  refine XS.icmpNo X00.here hx rfl (hb hby Gsa) rfl (flt h1).1 ?_
  refine Pa X00 hx hby Hsa rfl ?_
  refine X00.ldcI hx hown (mvT hZ (Ba hw 135 rfl)) rfl (hb hby Isa) ?_
  refine XS.icmpNo X00.here hx rfl (hb hby Ksa) rfl (tlt h2).2.1 ?_
  refine XS.iconst X00.here hx rfl (hb hby Ima) ?_
  refine XS.goto X00.here hx rfl (pc0 := 13) (pc' := 17) rfl (hb hby Kma) (by decide) (by decide) ?_
  exact k
 exact Zb (.int 1) hNG hlk hret X00 e00 (by decide) (by decide) (fun fs hr => k10 _ (retN X00 hx (t := .boolean) hret (by simp) (hb hby Lma) hr)) ⟨rfl, N00, rfl⟩
theorem Uba (m : MethodId) (x0 : Addr) (x1 : Int32) (x2 : Int32) (x3 : Addr) (x4 : Int32) (x5 : Int32)  : entryFrame m #[(.ref x0), (.int x1), (.int x2), (.ref x3), (.int x4), (.int x5)] 11 = mkF m 0 #[.val (.ref x0), .val (.int x1), .val (.int x2), .val (.ref x3), .val (.int x4), .val (.int x5), .unset, .unset, .unset, .unset, .unset] [] := by first | (simp [entryFrame, mkF, argsToLocals, Value.category]; done) | rfl
abbrev Ha : ByteArray := jdk_42_method_38_code
theorem Hg : decode Ha 0 = .ok (.iload_n 1, 1) := by decide +kernel
theorem Ig : decode Ha 1 = .ok (.iload_n 2, 1) := by decide +kernel
theorem Kg : decode Ha 2 = .ok (.if_icmp .ge 619, 3) := by decide +kernel
theorem Io : decode Ha 5 = .ok (.aload_n 0, 1) := by decide +kernel
theorem Ko : decode Ha 6 = .ok (.iload_n 1, 1) := by decide +kernel
theorem Lo : decode Ha 7 = .ok (.iinc 1 1, 3) := by decide +kernel
theorem Gn : decode Ha 10 = .ok (.baload, 1) := by decide +kernel
theorem Hn : decode Ha 11 = .ok (.istore 6, 2) := by decide +kernel
theorem Kn : decode Ha 13 = .ok (.iload 6, 2) := by decide +kernel
theorem Ln : decode Ha 15 = .ok (.ifCond .lt 18, 3) := by decide +kernel
theorem Gt : decode Ha 33 = .ok (.iload 6, 2) := by decide +kernel
theorem Ht : decode Ha 35 = .ok (.iconst 5, 1) := by decide +kernel
theorem It : decode Ha 36 = .ok (.ishr, 1) := by decide +kernel
theorem Kt : decode Ha 37 = .ok (.bipush (-2), 2) := by decide +kernel
theorem Lt : decode Ha 39 = .ok (.if_icmp .ne 104, 3) := by decide +kernel
theorem Mma : decode Ha 42 = .ok (.iload 6, 2) := by decide +kernel
theorem Pma : decode Ha 44 = .ok (.bipush 30, 2) := by decide +kernel
theorem Rma : decode Ha 46 = .ok (.iand, 1) := by decide +kernel
theorem Uma : decode Ha 47 = .ok (.ifCond .eq 96, 3) := by decide +kernel
theorem Vma : decode Ha 50 = .ok (.iload_n 1, 1) := by decide +kernel
theorem Wma : decode Ha 51 = .ok (.iload_n 2, 1) := by decide +kernel
theorem Yma : decode Ha 52 = .ok (.if_icmp .ge 67, 3) := by decide +kernel
theorem Zma : decode Ha 55 = .ok (.aload_n 0, 1) := by decide +kernel
theorem Ana : decode Ha 56 = .ok (.iload_n 1, 1) := by decide +kernel
theorem Bna : decode Ha 57 = .ok (.iinc 1 1, 3) := by decide +kernel
theorem Dna : decode Ha 60 = .ok (.baload, 1) := by decide +kernel
theorem Gna : decode Ha 61 = .ok (.istore 7, 2) := by decide +kernel
theorem Hna : decode Ha 63 = .ok (.iload 7, 2) := by decide +kernel
theorem Ina : decode Ha 65 = .ok (.invokestatic 385, 3) := by decide +kernel
theorem D3a : parseMethodDescriptor "(I)Z" = some ⟨[.int], some .boolean⟩ := by decide +kernel
theorem Kna : decode Ha 68 = .ok (.ifCond .eq 32, 3) := by decide +kernel
theorem Kca : decode Ha 100 = .ok (.aload_n 3, 1) := by decide +kernel
theorem Lca : decode Ha 101 = .ok (.iload 4, 2) := by decide +kernel
theorem Mca : decode Ha 103 = .ok (.iinc 4 1, 3) := by decide +kernel
theorem Pca : decode Ha 106 = .ok (.iload 6, 2) := by decide +kernel
theorem Rca : decode Ha 108 = .ok (.iload 7, 2) := by decide +kernel
theorem Uca : decode Ha 110 = .ok (.invokestatic 98, 3) := by decide +kernel
abbrev Zf : ByteArray := jdk_42_method_35_code
theorem Lsa : decode Zf 0 = .ok (.iload_n 0, 1) := by decide +kernel
theorem Msa : decode Zf 1 = .ok (.bipush 6, 2) := by decide +kernel
theorem Psa : decode Zf 3 = .ok (.ishl, 1) := by decide +kernel
theorem Rsa : decode Zf 4 = .ok (.iload_n 1, 1) := by decide +kernel
theorem Usa : decode Zf 5 = .ok (.ixor, 1) := by decide +kernel
theorem Vsa : decode Zf 6 = .ok (.sipush 3968, 3) := by decide +kernel
theorem Wsa : decode Zf 9 = .ok (.ixor, 1) := by decide +kernel
theorem Lna : decode Zf 10 = .ok (.i2c, 1) := by decide +kernel
theorem Mna : decode Zf 11 = .ok (.ireturn, 1) := by decide +kernel
abbrev G3a : MethodName := ⟨"java/lang/String", "decode2", "(II)C"⟩
theorem V4a (l : Launch) (Z : State) (a0 : Array Value) (hw : Pb a0 Z) (ws : List Jvm.Cond) (q0 q1 : Int32) (Ra Ya Ia Ua Ka Ga Ma : Addr) (Da : Int32) (Aa : Value) (h0 : Heap) (n0 : Nat) (O0 : Old Z n0 h0) (hE : EV Z Ra Ya Ia Ua Ka Ga Ma Da Aa) :
   Ib l G3a (Jvm.Cond.code G3a jdk_42_method_35_code 2 (some .char) :: ws) (Hb 0 0 0 0) #[(.int q0), (.int q1)] Z h0 (fun v h L => v = some (.int ((((q0 <<< ((6 : Int32) &&& 31)) ^^^ q1) ^^^ (3968 : Int32)).toUInt32.toUInt16.toUInt32.toInt32)) ∧ Fr n0 L ∧ h = h0) := by
 refine Db (plainFor_of_name Mb) n0 [] fun p e s m below meth c s₁ hx hby hml hown hnm hret hlk X00 e00 hZ N00 K00 hNG => ?_
 have k00 : Ab p e below m s₁ #[(.int q0), (.int q1)] 2 s₁ 0 #[vi q0, vi q1] [] := fun t k => castTop (Wwa m q0 q1 ) k
 have k10 : Ab p e below m s₁ #[(.int q0), (.int q1)] 2 s₁ 11 #[vi q0, vi q1] [(.int ((((q0 <<< ((6 : Int32) &&& 31)) ^^^ q1) ^^^ (3968 : Int32)).toUInt32.toUInt16.toUInt32.toInt32))] := by
  intro t k
  refine k00 t ?_
  refine Pa X00 hx hby Lsa rfl ?_
  refine XS.bipush X00.here hx rfl (hb hby Msa) ?_
  refine XS.ishl X00.here hx rfl (hb hby Psa) rfl ?_
  refine Pa X00 hx hby Rsa rfl ?_
  refine XS.ixor X00.here hx rfl (hb hby Usa) rfl ?_
  refine XS.sipush X00.here hx rfl (hb hby Vsa) ?_
  refine XS.ixor X00.here hx rfl (hb hby Wsa) rfl ?_
  refine XS.i2c X00.here hx rfl (hb hby Lna) rfl ?_
  exact k
 exact Zb (.int ((((q0 <<< ((6 : Int32) &&& 31)) ^^^ q1) ^^^ (3968 : Int32)).toUInt32.toUInt16.toUInt32.toInt32)) hNG hlk hret X00 e00 (by decide) (by decide) (fun fs hr => k10 _ (retN X00 hx (t := .char) hret (by simp) (hb hby Mna) (by rw [I6]; exact hr))) ⟨rfl, N00, rfl⟩
theorem B2a : parseMethodDescriptor "(II)C" = some ⟨[.int, .int], some .char⟩ := by decide +kernel
theorem Vca : decode Ha 113 = .ok (.invokestatic 64, 3) := by decide +kernel
theorem Wca : decode Ha 116 = .ok (.goto (-116), 3) := by decide +kernel
theorem Wp : decode Ha 621 = .ok (.iload 4, 2) := by decide +kernel
theorem Yp : decode Ha 623 = .ok (.ireturn, 1) := by decide +kernel
abbrev Pba : MethodName := ⟨"java/lang/String", "decodeUTF8_UTF16", "([BII[BIZ)I"⟩
theorem L7a (l : Launch) (Z : State) (a0 : Array Value) (hw : Pb a0 Z) (ws : List Jvm.Cond) (t0 t1 : Addr) (k0 k1 : ClassId) (b0 b1 b2 x0 x1 x2 x3 x4 x5 : Int32) (Ra Ya Ia Ua Ka Ga Ma : Addr) (Da : Int32) (Aa : Value) (h0 : Heap) (n0 : Nat) (O0 : Old Z n0 h0) (hE : EV Z Ra Ya Ia Ua Ka Ga Ma Da Aa) (P0 : Arv Z h0 t0 k0 .byte (3 : Int32) [(.int b0), (.int b1), (.int b2)] (.int 0)) (P1 : Arv Z h0 t1 k1 .byte (6 : Int32) [(.int x0), (.int x1), (.int x2), (.int x3), (.int x4), (.int x5)] (.int 0)) (g_t1 : n0 ≤ t1) (nt : ¬ (t0 = t1)) (m0 : ¬ (b0 < (0 : Int32))) (m1 : b1 < (0 : Int32)) (m2 : ¬ ((b1 &&& (254 : Int32)) = (194 : Int32))) (m3 : (b1 >>> ((5 : Int32) &&& 31)) = (-2 : Int32)) (m4 : ¬ ((b1 &&& (30 : Int32)) = (0 : Int32))) (m5 : (b2 &&& (192 : Int32)) = (128 : Int32)) :
   Ib l Pba (Jvm.Cond.code Pba jdk_42_method_38_code 11 (some .int) :: ws) (Hb 1 0 0 15) #[(.ref t0), (.int 1), (.int 3), (.ref t1), (.int 1), (.int 1)] Z h0 (fun v h L => v = some (.int 2) ∧ Fr n0 L ∧ Old Z n0 h ∧ Keep h0 h [t1] ∧ Arv Z h t1 k1 .byte (6 : Int32) [(.int x0), (.int x1), (.int ((((((b1 <<< ((6 : Int32) &&& 31)) ^^^ b2) ^^^ (3968 : Int32)).toUInt32.toUInt16.toUInt32.toInt32) >>> ((0 : Int32) &&& 31)).toInt8.toInt32)), (.int ((((((b1 <<< ((6 : Int32) &&& 31)) ^^^ b2) ^^^ (3968 : Int32)).toUInt32.toUInt16.toUInt32.toInt32) >>> ((8 : Int32) &&& 31)).toInt8.toInt32)), (.int x4), (.int x5)] (.int 0)) := by
 refine Db (plainFor_of_name Mb) n0 [t1] fun p e s m below meth c s₁ hx hby hml hown hnm hret hlk X00 e00 hZ N00 K00 hNG => ?_
 have k00 : Ab p e below m s₁ #[(.ref t0), (.int 1), (.int 3), (.ref t1), (.int 1), (.int 1)] 11 s₁ 0 #[vr t0, vi 1, vi 3, vr t1, vi 1, vi 1, .unset, .unset, .unset, .unset, .unset] [] := fun t k => castTop (Uba m t0 (1 : Int32) (3 : Int32) t1 (1 : Int32) (1 : Int32) ) k
 obtain ⟨cl10, Ar10, q10, Sz10, Nn10, Hs10, Gf10⟩ := id P0
 have hin11 := inb_of (j := 1) Sz10 ⟨by decide, by decide⟩
 have hat12 : cl10.slots[((1 : Int32)).toNatClampNeg]? = some (.int b1) := Hs10.at hin11 rfl
 obtain ⟨cl13, Ar13, q13, Sz13, Nn13, Hs13, Gf13⟩ := id P0
 have hin14 := inb_of (j := 2) Sz13 ⟨by decide, by decide⟩
 have hat15 : cl13.slots[((2 : Int32)).toNatClampNeg]? = some (.int b2) := Hs13.at hin14 rfl
 obtain ⟨v16, T16, Lc16, X16, hQ16, st16⟩ := Ub X00 hx hZ hown (rm_ncn l Z a0 hw [] b2 _ _ _ _ _ _ _ _ _ h0 n0 O0 hE  m5) (Ba hw 196 rfl) (Ba hw 197 rfl) (Ba hw 29 rfl) (Ba hw 198 rfl) e00 (g := (mkF m 65 #[vr t0, vi 3, vi 3, vr t1, vi 1, vi 1, vi b1, vi b2, .unset, .unset, .unset] [(.int b2)])) rfl (by rw [hml]; rfl) (argsL := [(.int b2)]) (rest := []) rfl (lenOf D3a rfl) rfl (W := 0) (by show 2 * 0 + _ ≤ _; exact Nat.le_of_eq rfl) (hb hby Ina) (by decide) (by decide) (by decide) (by decide) (by decide)
 obtain ⟨rfl, N16q, hp16⟩ := hQ16
 have N16 := Fr.app N00 N16q
 obtain ⟨v17, T17, Lc17, X17, hQ17, st17⟩ := Ub X16 hx hZ hown (V4a l Z a0 hw [] b1 b2 _ _ _ _ _ _ _ _ _ h0 n0 O0 hE ) (Ba hw 199 rfl) (Ba hw 200 rfl) (Ba hw 29 rfl) (Ba hw 201 rfl) hp16 (g := (mkF m 110 #[vr t0, vi 3, vi 3, vr t1, vi 2, vi 1, vi b1, vi b2, .unset, .unset, .unset] [(.int b2), (.int b1), (.int 1), (.ref t1)])) rfl (by rw [hml]; rfl) (argsL := [(.int b1), (.int b2)]) (rest := [(.int 1), (.ref t1)]) rfl (lenOf B2a rfl) rfl (W := 2) (by show 2 * 0 + _ ≤ _; exact Nat.le_of_eq rfl) (hb hby Uca) (by decide) (by decide) (by decide) (by decide) (by decide)
 obtain ⟨rfl, N17q, hp17⟩ := hQ17
 have N17 := Fr.app N16 N17q
 obtain ⟨v18, T18, Lc18, X18, hQ18, st18⟩ := Ub X17 hx hZ hown (B0a l Z a0 hw [] t1 k1 ((((b1 <<< ((6 : Int32) &&& 31)) ^^^ b2) ^^^ (3968 : Int32)).toUInt32.toUInt16.toUInt32.toInt32) x0 x1 x2 x3 x4 x5 _ _ _ _ _ _ _ _ _ h0 n0 O0 hE P1 g_t1 ) (Ba hw 140 rfl) (Ba hw 115 rfl) (Ba hw 87 rfl) (Ba hw 116 rfl) hp17 (g := (mkF m 113 #[vr t0, vi 3, vi 3, vr t1, vi 2, vi 1, vi b1, vi b2, .unset, .unset, .unset] [(.int ((((b1 <<< ((6 : Int32) &&& 31)) ^^^ b2) ^^^ (3968 : Int32)).toUInt32.toUInt16.toUInt32.toInt32)), (.int 1), (.ref t1)])) rfl (by rw [hml]; rfl) (argsL := [(.ref t1), (.int 1), (.int ((((b1 <<< ((6 : Int32) &&& 31)) ^^^ b2) ^^^ (3968 : Int32)).toUInt32.toUInt16.toUInt32.toInt32))]) (rest := []) rfl (lenOf Go rfl) rfl (W := 0) (by show 2 * 0 + _ ≤ _; exact Nat.le_of_eq rfl) (hb hby Vca) (by decide) (by decide) (by decide) (by decide) (by decide)
 obtain ⟨rfl, N18q, O18, Kc18, F18_0⟩ := hQ18
 have N18 := Fr.app N17 N18q
 have K18 := K00.trans Kc18 (allS (Or.inl (List.mem_of_getElem? (i := 0) rfl)) all0)
 have k19 : Ab p e below m s₁ #[(.ref t0), (.int 1), (.int 3), (.ref t1), (.int 1), (.int 1)] 11 T18 623 #[vr t0, vi 3, vi 3, vr t1, vi 2, vi 1, vi b1, vi b2, .unset, .unset, .unset] [(.int 2)] := by
  intro t k
  refine k00 t ?_
  refine Pa X00 hx hby Hg rfl ?_
  refine Pa X00 hx hby Ig rfl ?_
  refine XS.icmpNo X00.here hx rfl (hb hby Kg) rfl (tlt (by decide : (1 : Int32) < (3 : Int32))).2.1 ?_
  refine Va X00 hx hby Io rfl rfl ?_
  refine Pa X00 hx hby Ko rfl ?_
  refine XS.iinc X00.here hx rfl (hb hby Lo) rfl (l' := #[vr t0, vi ((1 : Int32) + (1 : Int32)), vi 3, vr t1, vi 1, vi 1, .unset, .unset, .unset, .unset, .unset]) rfl ?_
  rw [Hm]
  refine X00.baloadBytes hx (j := 1) (v := (.int b1)) (by rw [e00]; exact Ar10.1) (State.isArrayOf_alike hZ.alike Ar10.2.1) Ar10.2.2 hin11 hat12 (g := (mkF m 10 #[vr t0, vi 2, vi 3, vr t1, vi 1, vi 1, .unset, .unset, .unset, .unset, .unset] [(.int 1), (.ref t0)])) rfl rfl (hb hby Gn) _ ?_
  refine XS.istore X00.here hx rfl (hb hby Hn) rfl (l' := #[vr t0, vi 2, vi 3, vr t1, vi 1, vi 1, vi b1, .unset, .unset, .unset, .unset]) rfl ?_
  refine Wa X00 hx hby Kn rfl ?_
  refine XS.ifYes X00.here hx rfl (pc0 := 15) (pc' := 33) rfl (hb hby Ln) rfl ((if0 _ _).trans (tlt m1).1) (by decide) (by decide) ?_
  refine Wa X00 hx hby Gt rfl ?_
  refine XS.iconst X00.here hx rfl (hb hby Ht) ?_
  show Za p e below m s₁ 36 #[vr t0, vi 2, vi 3, vr t1, vi 1, vi 1, vi b1, .unset, .unset, .unset, .unset] [(.int 5), (.int b1)] t
  refine XS.ishr X00.here hx rfl (hb hby It) rfl ?_
  refine XS.bipush X00.here hx rfl (hb hby Kt) ?_
  refine XS.icmpNo X00.here hx rfl (hb hby Lt) rfl (teq m3).2 ?_
  refine Wa X00 hx hby Mma rfl ?_
  refine XS.bipush X00.here hx rfl (hb hby Pma) ?_
  refine XS.iand X00.here hx rfl (hb hby Rma) rfl ?_
  refine XS.ifNo X00.here hx rfl (hb hby Uma) rfl ((if0 _ _).trans (feq m4).1) ?_
  refine Pa X00 hx hby Vma rfl ?_
  refine Pa X00 hx hby Wma rfl ?_
  refine XS.icmpNo X00.here hx rfl (hb hby Yma) rfl (tlt (by decide : (2 : Int32) < (3 : Int32))).2.1 ?_
  refine Va X00 hx hby Zma rfl rfl ?_
  refine Pa X00 hx hby Ana rfl ?_
  show Za p e below m s₁ 57 #[vr t0, vi 2, vi 3, vr t1, vi 1, vi 1, vi b1, .unset, .unset, .unset, .unset] [(.int 2), (.ref t0)] t
  refine XS.iinc X00.here hx rfl (hb hby Bna) rfl (l' := #[vr t0, vi ((2 : Int32) + (1 : Int32)), vi 3, vr t1, vi 1, vi 1, vi b1, .unset, .unset, .unset, .unset]) rfl ?_
  rw [Lv]
  refine X00.baloadBytes hx (j := 2) (v := (.int b2)) (by rw [e00]; exact Ar13.1) (State.isArrayOf_alike hZ.alike Ar13.2.1) Ar13.2.2 hin14 hat15 (g := (mkF m 60 #[vr t0, vi 3, vi 3, vr t1, vi 1, vi 1, vi b1, .unset, .unset, .unset, .unset] [(.int 2), (.ref t0)])) rfl rfl (hb hby Dna) _ ?_
  refine XS.istore X00.here hx rfl (hb hby Gna) rfl (l' := #[vr t0, vi 3, vi 3, vr t1, vi 1, vi 1, vi b1, vi b2, .unset, .unset, .unset]) rfl ?_
  refine Wa X00 hx hby Hna rfl ?_
  refine st16 _ ?_
  refine XS.ifYes X16.here hx rfl (pc0 := 68) (pc' := 100) rfl (hb hby Kna) rfl ((if0 _ _).trans (teq (by decide : (0 : Int32) = (0 : Int32))).1) (by decide) (by decide) ?_
  refine Va X16 hx hby Kca rfl rfl ?_
  refine Wa X16 hx hby Lca rfl ?_
  refine XS.iinc X16.here hx rfl (hb hby Mca) rfl (l' := #[vr t0, vi 3, vi 3, vr t1, vi ((1 : Int32) + (1 : Int32)), vi 1, vi b1, vi b2, .unset, .unset, .unset]) rfl ?_
  rw [Hm]
  refine Wa X16 hx hby Pca rfl ?_
  refine Wa X16 hx hby Rca rfl ?_
  refine st17 _ ?_
  show Za p e below m T17 113 #[vr t0, vi 3, vi 3, vr t1, vi 2, vi 1, vi b1, vi b2, .unset, .unset, .unset] [(.int ((((b1 <<< ((6 : Int32) &&& 31)) ^^^ b2) ^^^ (3968 : Int32)).toUInt32.toUInt16.toUInt32.toInt32)), (.int 1), (.ref t1)] t
  refine st18 _ ?_
  refine XS.goto X18.here hx rfl (pc0 := 116) (pc' := 0) rfl (hb hby Wca) (by decide) (by decide) ?_
  refine Pa X18 hx hby Hg rfl ?_
  refine Pa X18 hx hby Ig rfl ?_
  refine XS.icmpYes X18.here hx rfl (pc0 := 2) (pc' := 621) rfl (hb hby Kg) rfl (flt (by decide : ¬ ((3 : Int32) < (3 : Int32)))).2.1 (by decide) (by decide) ?_
  refine Wa X18 hx hby Wp rfl ?_
  exact k
 exact Zb (.int 2) hNG hlk hret X18 rfl (by decide) (by decide) (fun fs hr => k19 _ (retOut X18 hx (t := .int) hret rfl (Or.inl ⟨rfl, Or.inl rfl, _, rfl⟩) (hb hby Yp) hr)) ⟨rfl, N18, O18, K18, F18_0⟩
theorem Pw : decode Ha 143 = .ok (.iload 6, 2) := by decide +kernel
theorem Rw : decode Ha 145 = .ok (.iconst 4, 1) := by decide +kernel
theorem Uw : decode Ha 146 = .ok (.ishr, 1) := by decide +kernel
theorem Vw : decode Ha 147 = .ok (.bipush (-2), 2) := by decide +kernel
theorem Ww : decode Ha 149 = .ok (.if_icmp .ne 200, 3) := by decide +kernel
theorem Yca : decode Ha 152 = .ok (.iload_n 1, 1) := by decide +kernel
theorem Zca : decode Ha 153 = .ok (.iconst 1, 1) := by decide +kernel
theorem Ada : decode Ha 154 = .ok (.iadd, 1) := by decide +kernel
theorem Bda : decode Ha 155 = .ok (.iload_n 2, 1) := by decide +kernel
theorem Dda : decode Ha 156 = .ok (.if_icmp .ge 127, 3) := by decide +kernel
theorem Gda : decode Ha 159 = .ok (.aload_n 0, 1) := by decide +kernel
theorem Hda : decode Ha 160 = .ok (.iload_n 1, 1) := by decide +kernel
theorem Ida : decode Ha 161 = .ok (.iinc 1 1, 3) := by decide +kernel
theorem Kda : decode Ha 164 = .ok (.baload, 1) := by decide +kernel
theorem Lda : decode Ha 165 = .ok (.istore 7, 2) := by decide +kernel
theorem Mda : decode Ha 167 = .ok (.aload_n 0, 1) := by decide +kernel
theorem Pda : decode Ha 168 = .ok (.iload_n 1, 1) := by decide +kernel
theorem Rda : decode Ha 169 = .ok (.iinc 1 1, 3) := by decide +kernel
theorem Lza : ((3 : Int32) + (1 : Int32)) = (4 : Int32) := by decide
theorem Uda : decode Ha 172 = .ok (.baload, 1) := by decide +kernel
theorem Vda : decode Ha 173 = .ok (.istore 8, 2) := by decide +kernel
theorem Wda : decode Ha 175 = .ok (.iload 6, 2) := by decide +kernel
theorem Yda : decode Ha 177 = .ok (.iload 7, 2) := by decide +kernel
theorem Zda : decode Ha 179 = .ok (.iload 8, 2) := by decide +kernel
theorem Aea : decode Ha 181 = .ok (.invokestatic 392, 3) := by decide +kernel
theorem K1a : parseMethodDescriptor "(III)Z" = some ⟨[.int, .int, .int], some .boolean⟩ := by decide +kernel
theorem Bea : decode Ha 184 = .ok (.ifCond .eq 40, 3) := by decide +kernel
theorem Dea : decode Ha 224 = .ok (.iload 6, 2) := by decide +kernel
theorem Gea : decode Ha 226 = .ok (.iload 7, 2) := by decide +kernel
theorem Hea : decode Ha 228 = .ok (.iload 8, 2) := by decide +kernel
theorem Iea : decode Ha 230 = .ok (.invokestatic 400, 3) := by decide +kernel
abbrev Md : ByteArray := jdk_42_method_36_code
theorem Ysa : decode Md 0 = .ok (.iload_n 0, 1) := by decide +kernel
theorem Zsa : decode Md 1 = .ok (.bipush 12, 2) := by decide +kernel
theorem Ata : decode Md 3 = .ok (.ishl, 1) := by decide +kernel
theorem Bta : decode Md 4 = .ok (.iload_n 1, 1) := by decide +kernel
theorem Dta : decode Md 5 = .ok (.bipush 6, 2) := by decide +kernel
theorem Gta : decode Md 7 = .ok (.ishl, 1) := by decide +kernel
theorem Hta : decode Md 8 = .ok (.ixor, 1) := by decide +kernel
theorem Ita : decode Md 9 = .ok (.iload_n 2, 1) := by decide +kernel
theorem Pna : decode Md 10 = .ok (.ldc_w 383, 3) := by decide +kernel
theorem Rna : decode Md 13 = .ok (.ixor, 1) := by decide +kernel
theorem Una : decode Md 14 = .ok (.ixor, 1) := by decide +kernel
theorem Vna : decode Md 15 = .ok (.i2c, 1) := by decide +kernel
theorem Wna : decode Md 16 = .ok (.ireturn, 1) := by decide +kernel
abbrev H3a : MethodName := ⟨"java/lang/String", "decode3", "(III)C"⟩
theorem rm_f16 (l : Launch) (Z : State) (a0 : Array Value) (hw : Pb a0 Z) (ws : List Jvm.Cond) (q0 q1 q2 : Int32) (Ra Ya Ia Ua Ka Ga Ma : Addr) (Da : Int32) (Aa : Value) (h0 : Heap) (n0 : Nat) (O0 : Old Z n0 h0) (hE : EV Z Ra Ya Ia Ua Ka Ga Ma Da Aa) :
   Ib l H3a (Jvm.Cond.code H3a jdk_42_method_36_code 3 (some .char) :: ws) (Hb 0 0 0 0) #[(.int q0), (.int q1), (.int q2)] Z h0 (fun v h L => v = some (.int ((((q0 <<< ((12 : Int32) &&& 31)) ^^^ (q1 <<< ((6 : Int32) &&& 31))) ^^^ (q2 ^^^ (-123008 : Int32))).toUInt32.toUInt16.toUInt32.toInt32)) ∧ Fr n0 L ∧ h = h0) := by
 refine Db (plainFor_of_name Mb) n0 [] fun p e s m below meth c s₁ hx hby hml hown hnm hret hlk X00 e00 hZ N00 K00 hNG => ?_
 have k00 : Ab p e below m s₁ #[(.int q0), (.int q1), (.int q2)] 3 s₁ 0 #[vi q0, vi q1, vi q2] [] := fun t k => castTop (Bca m q0 q1 q2 ) k
 have k10 : Ab p e below m s₁ #[(.int q0), (.int q1), (.int q2)] 3 s₁ 16 #[vi q0, vi q1, vi q2] [(.int ((((q0 <<< ((12 : Int32) &&& 31)) ^^^ (q1 <<< ((6 : Int32) &&& 31))) ^^^ (q2 ^^^ (-123008 : Int32))).toUInt32.toUInt16.toUInt32.toInt32))] := by
  intro t k
  refine k00 t ?_
  refine Pa X00 hx hby Ysa rfl ?_
  refine XS.bipush X00.here hx rfl (hb hby Zsa) ?_
  refine XS.ishl X00.here hx rfl (hb hby Ata) rfl ?_
  refine Pa X00 hx hby Bta rfl ?_
  refine XS.bipush X00.here hx rfl (hb hby Dta) ?_
  refine XS.ishl X00.here hx rfl (hb hby Gta) rfl ?_
  refine XS.ixor X00.here hx rfl (hb hby Hta) rfl ?_
  refine Pa X00 hx hby Ita rfl ?_
  refine X00.ldcWI hx hown (mvT hZ (Ba hw 213 rfl)) rfl (hb hby Pna) ?_
  refine XS.ixor X00.here hx rfl (hb hby Rna) rfl ?_
  refine XS.ixor X00.here hx rfl (hb hby Una) rfl ?_
  refine XS.i2c X00.here hx rfl (hb hby Vna) rfl ?_
  show Za p e below m s₁ 16 #[vi q0, vi q1, vi q2] [(.int ((((q0 <<< ((12 : Int32) &&& 31)) ^^^ (q1 <<< ((6 : Int32) &&& 31))) ^^^ (q2 ^^^ (-123008 : Int32))).toUInt32.toUInt16.toUInt32.toInt32))] t
  exact k
 exact Zb (.int ((((q0 <<< ((12 : Int32) &&& 31)) ^^^ (q1 <<< ((6 : Int32) &&& 31))) ^^^ (q2 ^^^ (-123008 : Int32))).toUInt32.toUInt16.toUInt32.toInt32)) hNG hlk hret X00 e00 (by decide) (by decide) (fun fs hr => k10 _ (retN X00 hx (t := .char) hret (by simp) (hb hby Wna) (by rw [I6]; exact hr))) ⟨rfl, N00, rfl⟩
theorem W4a : parseMethodDescriptor "(III)C" = some ⟨[.int, .int, .int], some .char⟩ := by decide +kernel
theorem Kea : decode Ha 233 = .ok (.istore 9, 2) := by decide +kernel
theorem Lea : decode Ha 235 = .ok (.iload 9, 2) := by decide +kernel
theorem Mea : decode Ha 237 = .ok (.invokestatic 404, 3) := by decide +kernel
theorem V9a : parseMethodDescriptor "(C)Z" = some ⟨[.char], some .boolean⟩ := by decide +kernel
theorem Pea : decode Ha 240 = .ok (.ifCond .eq 29, 3) := by decide +kernel
theorem Rea : decode Ha 269 = .ok (.aload_n 3, 1) := by decide +kernel
theorem Uea : decode Ha 270 = .ok (.iload 4, 2) := by decide +kernel
theorem Vea : decode Ha 272 = .ok (.iinc 4 1, 3) := by decide +kernel
theorem Wea : decode Ha 275 = .ok (.iload 9, 2) := by decide +kernel
theorem Yea : decode Ha 277 = .ok (.invokestatic 64, 3) := by decide +kernel
theorem Zea : decode Ha 280 = .ok (.goto (-280), 3) := by decide +kernel
theorem W9a (l : Launch) (Z : State) (a0 : Array Value) (hw : Pb a0 Z) (ws : List Jvm.Cond) (t0 t1 : Addr) (k0 k1 : ClassId) (b0 b1 b2 b3 x0 x1 x2 x3 x4 x5 x6 x7 : Int32) (Ra Ya Ia Ua Ka Ga Ma : Addr) (Da : Int32) (Aa : Value) (h0 : Heap) (n0 : Nat) (O0 : Old Z n0 h0) (hE : EV Z Ra Ya Ia Ua Ka Ga Ma Da Aa) (P0 : Arv Z h0 t0 k0 .byte (4 : Int32) [(.int b0), (.int b1), (.int b2), (.int b3)] (.int 0)) (P1 : Arv Z h0 t1 k1 .byte (8 : Int32) [(.int x0), (.int x1), (.int x2), (.int x3), (.int x4), (.int x5), (.int x6), (.int x7)] (.int 0)) (g_t1 : n0 ≤ t1) (nt : ¬ (t0 = t1)) (m0 : ¬ (b0 < (0 : Int32))) (m1 : b1 < (0 : Int32)) (m2 : ¬ ((b1 &&& (254 : Int32)) = (194 : Int32))) (m3 : ¬ ((b1 >>> ((5 : Int32) &&& 31)) = (-2 : Int32))) (m4 : (b1 >>> ((4 : Int32) &&& 31)) = (-2 : Int32)) (m5 : (b2 &&& (192 : Int32)) = (128 : Int32)) (m6 : (b3 &&& (192 : Int32)) = (128 : Int32)) (hov : b1 = (-32 : Int32) → ¬ ((b2 &&& (224 : Int32)) = (128 : Int32))) (hs : ¬ (((((b1 <<< ((12 : Int32) &&& 31)) ^^^ (b2 <<< ((6 : Int32) &&& 31))) ^^^ (b3 ^^^ (-123008 : Int32))).toUInt32.toUInt16.toUInt32.toInt32) < (55296 : Int32)) → ¬ (((((b1 <<< ((12 : Int32) &&& 31)) ^^^ (b2 <<< ((6 : Int32) &&& 31))) ^^^ (b3 ^^^ (-123008 : Int32))).toUInt32.toUInt16.toUInt32.toInt32) < (57344 : Int32))) :
   Ib l Pba (Jvm.Cond.code Pba jdk_42_method_38_code 11 (some .int) :: ws) (Hb 1 0 0 14) #[(.ref t0), (.int 1), (.int 4), (.ref t1), (.int 1), (.int 1)] Z h0 (fun v h L => v = some (.int 2) ∧ Fr n0 L ∧ Old Z n0 h ∧ Keep h0 h [t1] ∧ Arv Z h t1 k1 .byte (8 : Int32) [(.int x0), (.int x1), (.int ((((((b1 <<< ((12 : Int32) &&& 31)) ^^^ (b2 <<< ((6 : Int32) &&& 31))) ^^^ (b3 ^^^ (-123008 : Int32))).toUInt32.toUInt16.toUInt32.toInt32) >>> ((0 : Int32) &&& 31)).toInt8.toInt32)), (.int ((((((b1 <<< ((12 : Int32) &&& 31)) ^^^ (b2 <<< ((6 : Int32) &&& 31))) ^^^ (b3 ^^^ (-123008 : Int32))).toUInt32.toUInt16.toUInt32.toInt32) >>> ((8 : Int32) &&& 31)).toInt8.toInt32)), (.int x4), (.int x5), (.int x6), (.int x7)] (.int 0)) := by
 refine Db (plainFor_of_name Mb) n0 [t1] fun p e s m below meth c s₁ hx hby hml hown hnm hret hlk X00 e00 hZ N00 K00 hNG => ?_
 have k00 : Ab p e below m s₁ #[(.ref t0), (.int 1), (.int 4), (.ref t1), (.int 1), (.int 1)] 11 s₁ 0 #[vr t0, vi 1, vi 4, vr t1, vi 1, vi 1, .unset, .unset, .unset, .unset, .unset] [] := fun t k => castTop (Uba m t0 (1 : Int32) (4 : Int32) t1 (1 : Int32) (1 : Int32) ) k
 obtain ⟨cl10, Ar10, q10, Sz10, Nn10, Hs10, Gf10⟩ := id P0
 have hin11 := inb_of (j := 1) Sz10 ⟨by decide, by decide⟩
 have hat12 : cl10.slots[((1 : Int32)).toNatClampNeg]? = some (.int b1) := Hs10.at hin11 rfl
 obtain ⟨cl13, Ar13, q13, Sz13, Nn13, Hs13, Gf13⟩ := id P0
 have hin14 := inb_of (j := 2) Sz13 ⟨by decide, by decide⟩
 have hat15 : cl13.slots[((2 : Int32)).toNatClampNeg]? = some (.int b2) := Hs13.at hin14 rfl
 obtain ⟨cl16, Ar16, q16, Sz16, Nn16, Hs16, Gf16⟩ := id P0
 have hin17 := inb_of (j := 3) Sz16 ⟨by decide, by decide⟩
 have hat18 : cl16.slots[((3 : Int32)).toNatClampNeg]? = some (.int b3) := Hs16.at hin17 rfl
 obtain ⟨v19, T19, Lc19, X19, hQ19, st19⟩ := Ub X00 hx hZ hown (rm_mf3 l Z a0 hw [] b1 b2 b3 _ _ _ _ _ _ _ _ _ h0 n0 O0 hE  hov m5 m6) (Ba hw 207 rfl) (Ba hw 208 rfl) (Ba hw 29 rfl) (Ba hw 209 rfl) e00 (g := (mkF m 181 #[vr t0, vi 4, vi 4, vr t1, vi 1, vi 1, vi b1, vi b2, vi b3, .unset, .unset] [(.int b3), (.int b2), (.int b1)])) rfl (by rw [hml]; rfl) (argsL := [(.int b1), (.int b2), (.int b3)]) (rest := []) rfl (lenOf K1a rfl) rfl (W := 0) (by show 2 * 0 + _ ≤ _; exact Nat.le_of_eq rfl) (hb hby Aea) (by decide) (by decide) (by decide) (by decide) (by decide)
 obtain ⟨rfl, N19q, hp19⟩ := hQ19
 have N19 := Fr.app N00 N19q
 obtain ⟨v20, T20, Lc20, X20, hQ20, st20⟩ := Ub X19 hx hZ hown (rm_f16 l Z a0 hw [] b1 b2 b3 _ _ _ _ _ _ _ _ _ h0 n0 O0 hE ) (Ba hw 210 rfl) (Ba hw 211 rfl) (Ba hw 29 rfl) (Ba hw 212 rfl) hp19 (g := (mkF m 230 #[vr t0, vi 4, vi 4, vr t1, vi 1, vi 1, vi b1, vi b2, vi b3, .unset, .unset] [(.int b3), (.int b2), (.int b1)])) rfl (by rw [hml]; rfl) (argsL := [(.int b1), (.int b2), (.int b3)]) (rest := []) rfl (lenOf W4a rfl) rfl (W := 0) (by show 2 * 0 + _ ≤ _; exact Nat.le_of_eq rfl) (hb hby Iea) (by decide) (by decide) (by decide) (by decide) (by decide)
 obtain ⟨rfl, N20q, hp20⟩ := hQ20
 have N20 := Fr.app N19 N20q
 obtain ⟨v21, T21, Lc21, X21, hQ21, st21⟩ := Ub X20 hx hZ hown (rm_sur l Z a0 hw [] ((((b1 <<< ((12 : Int32) &&& 31)) ^^^ (b2 <<< ((6 : Int32) &&& 31))) ^^^ (b3 ^^^ (-123008 : Int32))).toUInt32.toUInt16.toUInt32.toInt32) _ _ _ _ _ _ _ _ _ h0 n0 O0 hE  hs) (Ba hw 214 rfl) (Ba hw 215 rfl) (Ba hw 132 rfl) (Ba hw 216 rfl) hp20 (g := (mkF m 237 #[vr t0, vi 4, vi 4, vr t1, vi 1, vi 1, vi b1, vi b2, vi b3, vi ((((b1 <<< ((12 : Int32) &&& 31)) ^^^ (b2 <<< ((6 : Int32) &&& 31))) ^^^ (b3 ^^^ (-123008 : Int32))).toUInt32.toUInt16.toUInt32.toInt32), .unset] [(.int ((((b1 <<< ((12 : Int32) &&& 31)) ^^^ (b2 <<< ((6 : Int32) &&& 31))) ^^^ (b3 ^^^ (-123008 : Int32))).toUInt32.toUInt16.toUInt32.toInt32))])) rfl (by rw [hml]; rfl) (argsL := [(.int ((((b1 <<< ((12 : Int32) &&& 31)) ^^^ (b2 <<< ((6 : Int32) &&& 31))) ^^^ (b3 ^^^ (-123008 : Int32))).toUInt32.toUInt16.toUInt32.toInt32))]) (rest := []) rfl (lenOf V9a rfl) rfl (W := 0) (by show 2 * 0 + _ ≤ _; exact Nat.le_of_eq rfl) (hb hby Mea) (by decide) (by decide) (by decide) (by decide) (by decide)
 obtain ⟨rfl, N21q, hp21⟩ := hQ21
 have N21 := Fr.app N20 N21q
 obtain ⟨v22, T22, Lc22, X22, hQ22, st22⟩ := Ub X21 hx hZ hown (U5a l Z a0 hw [] t1 k1 ((((b1 <<< ((12 : Int32) &&& 31)) ^^^ (b2 <<< ((6 : Int32) &&& 31))) ^^^ (b3 ^^^ (-123008 : Int32))).toUInt32.toUInt16.toUInt32.toInt32) x0 x1 x2 x3 x4 x5 x6 x7 _ _ _ _ _ _ _ _ _ h0 n0 O0 hE P1 g_t1 ) (Ba hw 140 rfl) (Ba hw 115 rfl) (Ba hw 87 rfl) (Ba hw 116 rfl) hp21 (g := (mkF m 277 #[vr t0, vi 4, vi 4, vr t1, vi 2, vi 1, vi b1, vi b2, vi b3, vi ((((b1 <<< ((12 : Int32) &&& 31)) ^^^ (b2 <<< ((6 : Int32) &&& 31))) ^^^ (b3 ^^^ (-123008 : Int32))).toUInt32.toUInt16.toUInt32.toInt32), .unset] [(.int ((((b1 <<< ((12 : Int32) &&& 31)) ^^^ (b2 <<< ((6 : Int32) &&& 31))) ^^^ (b3 ^^^ (-123008 : Int32))).toUInt32.toUInt16.toUInt32.toInt32)), (.int 1), (.ref t1)])) rfl (by rw [hml]; rfl) (argsL := [(.ref t1), (.int 1), (.int ((((b1 <<< ((12 : Int32) &&& 31)) ^^^ (b2 <<< ((6 : Int32) &&& 31))) ^^^ (b3 ^^^ (-123008 : Int32))).toUInt32.toUInt16.toUInt32.toInt32))]) (rest := []) rfl (lenOf Go rfl) rfl (W := 0) (by show 2 * 0 + _ ≤ _; exact Nat.le_of_eq rfl) (hb hby Yea) (by decide) (by decide) (by decide) (by decide) (by decide)
 obtain ⟨rfl, N22q, O22, Kc22, F22_0⟩ := hQ22
 have N22 := Fr.app N21 N22q
 have K22 := K00.trans Kc22 (allS (Or.inl (List.mem_of_getElem? (i := 0) rfl)) all0)
 have k23 : Ab p e below m s₁ #[(.ref t0), (.int 1), (.int 4), (.ref t1), (.int 1), (.int 1)] 11 T22 623 #[vr t0, vi 4, vi 4, vr t1, vi 2, vi 1, vi b1, vi b2, vi b3, vi ((((b1 <<< ((12 : Int32) &&& 31)) ^^^ (b2 <<< ((6 : Int32) &&& 31))) ^^^ (b3 ^^^ (-123008 : Int32))).toUInt32.toUInt16.toUInt32.toInt32), .unset] [(.int 2)] := by
  intro t k
  refine k00 t ?_
  refine Pa X00 hx hby Hg rfl ?_
  refine Pa X00 hx hby Ig rfl ?_
  refine XS.icmpNo X00.here hx rfl (hb hby Kg) rfl (tlt (by decide : (1 : Int32) < (4 : Int32))).2.1 ?_
  refine Va X00 hx hby Io rfl rfl ?_
  refine Pa X00 hx hby Ko rfl ?_
  refine XS.iinc X00.here hx rfl (hb hby Lo) rfl (l' := #[vr t0, vi ((1 : Int32) + (1 : Int32)), vi 4, vr t1, vi 1, vi 1, .unset, .unset, .unset, .unset, .unset]) rfl ?_
  rw [Hm]
  refine X00.baloadBytes hx (j := 1) (v := (.int b1)) (by rw [e00]; exact Ar10.1) (State.isArrayOf_alike hZ.alike Ar10.2.1) Ar10.2.2 hin11 hat12 (g := (mkF m 10 #[vr t0, vi 2, vi 4, vr t1, vi 1, vi 1, .unset, .unset, .unset, .unset, .unset] [(.int 1), (.ref t0)])) rfl rfl (hb hby Gn) _ ?_
  refine XS.istore X00.here hx rfl (hb hby Hn) rfl (l' := #[vr t0, vi 2, vi 4, vr t1, vi 1, vi 1, vi b1, .unset, .unset, .unset, .unset]) rfl ?_
  refine Wa X00 hx hby Kn rfl ?_
  refine XS.ifYes X00.here hx rfl (pc0 := 15) (pc' := 33) rfl (hb hby Ln) rfl ((if0 _ _).trans (tlt m1).1) (by decide) (by decide) ?_
  refine Wa X00 hx hby Gt rfl ?_
  refine XS.iconst X00.here hx rfl (hb hby Ht) ?_
  show Za p e below m s₁ 36 #[vr t0, vi 2, vi 4, vr t1, vi 1, vi 1, vi b1, .unset, .unset, .unset, .unset] [(.int 5), (.int b1)] t
  refine XS.ishr X00.here hx rfl (hb hby It) rfl ?_
  refine XS.bipush X00.here hx rfl (hb hby Kt) ?_
  refine XS.icmpYes X00.here hx rfl (pc0 := 39) (pc' := 143) rfl (hb hby Lt) rfl (feq m3).2 (by decide) (by decide) ?_
  refine Wa X00 hx hby Pw rfl ?_
  refine XS.iconst X00.here hx rfl (hb hby Rw) ?_
  refine XS.ishr X00.here hx rfl (hb hby Uw) rfl ?_
  refine XS.bipush X00.here hx rfl (hb hby Vw) ?_
  refine XS.icmpNo X00.here hx rfl (hb hby Ww) rfl (teq m4).2 ?_
  refine Pa X00 hx hby Yca rfl ?_
  refine XS.iconst X00.here hx rfl (hb hby Zca) ?_
  refine XS.iadd X00.here hx rfl (hb hby Ada) rfl ?_
  show Za p e below m s₁ 155 #[vr t0, vi 2, vi 4, vr t1, vi 1, vi 1, vi b1, .unset, .unset, .unset, .unset] [(.int ((2 : Int32) + (1 : Int32)))] t
  rw [Lv]
  refine Pa X00 hx hby Bda rfl ?_
  refine XS.icmpNo X00.here hx rfl (hb hby Dda) rfl (tlt (by decide : (3 : Int32) < (4 : Int32))).2.1 ?_
  refine Va X00 hx hby Gda rfl rfl ?_
  refine Pa X00 hx hby Hda rfl ?_
  refine XS.iinc X00.here hx rfl (hb hby Ida) rfl (l' := #[vr t0, vi ((2 : Int32) + (1 : Int32)), vi 4, vr t1, vi 1, vi 1, vi b1, .unset, .unset, .unset, .unset]) rfl ?_
  rw [Lv]
  refine X00.baloadBytes hx (j := 2) (v := (.int b2)) (by rw [e00]; exact Ar13.1) (State.isArrayOf_alike hZ.alike Ar13.2.1) Ar13.2.2 hin14 hat15 (g := (mkF m 164 #[vr t0, vi 3, vi 4, vr t1, vi 1, vi 1, vi b1, .unset, .unset, .unset, .unset] [(.int 2), (.ref t0)])) rfl rfl (hb hby Kda) _ ?_
  refine XS.istore X00.here hx rfl (hb hby Lda) rfl (l' := #[vr t0, vi 3, vi 4, vr t1, vi 1, vi 1, vi b1, vi b2, .unset, .unset, .unset]) rfl ?_
  refine Va X00 hx hby Mda rfl rfl ?_
  refine Pa X00 hx hby Pda rfl ?_
  refine XS.iinc X00.here hx rfl (hb hby Rda) rfl (l' := #[vr t0, vi ((3 : Int32) + (1 : Int32)), vi 4, vr t1, vi 1, vi 1, vi b1, vi b2, .unset, .unset, .unset]) rfl ?_
  rw [Lza]
  refine X00.baloadBytes hx (j := 3) (v := (.int b3)) (by rw [e00]; exact Ar16.1) (State.isArrayOf_alike hZ.alike Ar16.2.1) Ar16.2.2 hin17 hat18 (g := (mkF m 172 #[vr t0, vi 4, vi 4, vr t1, vi 1, vi 1, vi b1, vi b2, .unset, .unset, .unset] [(.int 3), (.ref t0)])) rfl rfl (hb hby Uda) _ ?_
  show Za p e below m s₁ 173 #[vr t0, vi 4, vi 4, vr t1, vi 1, vi 1, vi b1, vi b2, .unset, .unset, .unset] [(.int b3)] t
  refine XS.istore X00.here hx rfl (hb hby Vda) rfl (l' := #[vr t0, vi 4, vi 4, vr t1, vi 1, vi 1, vi b1, vi b2, vi b3, .unset, .unset]) rfl ?_
  refine Wa X00 hx hby Wda rfl ?_
  refine Wa X00 hx hby Yda rfl ?_
  refine Wa X00 hx hby Zda rfl ?_
  refine st19 _ ?_
  refine XS.ifYes X19.here hx rfl (pc0 := 184) (pc' := 224) rfl (hb hby Bea) rfl ((if0 _ _).trans (teq (by decide : (0 : Int32) = (0 : Int32))).1) (by decide) (by decide) ?_
  refine Wa X19 hx hby Dea rfl ?_
  refine Wa X19 hx hby Gea rfl ?_
  refine Wa X19 hx hby Hea rfl ?_
  refine st20 _ ?_
  refine XS.istore X20.here hx rfl (hb hby Kea) rfl (l' := #[vr t0, vi 4, vi 4, vr t1, vi 1, vi 1, vi b1, vi b2, vi b3, vi ((((b1 <<< ((12 : Int32) &&& 31)) ^^^ (b2 <<< ((6 : Int32) &&& 31))) ^^^ (b3 ^^^ (-123008 : Int32))).toUInt32.toUInt16.toUInt32.toInt32), .unset]) rfl ?_
  refine Wa X20 hx hby Lea rfl ?_
  show Za p e below m T20 237 #[vr t0, vi 4, vi 4, vr t1, vi 1, vi 1, vi b1, vi b2, vi b3, vi ((((b1 <<< ((12 : Int32) &&& 31)) ^^^ (b2 <<< ((6 : Int32) &&& 31))) ^^^ (b3 ^^^ (-123008 : Int32))).toUInt32.toUInt16.toUInt32.toInt32), .unset] [(.int ((((b1 <<< ((12 : Int32) &&& 31)) ^^^ (b2 <<< ((6 : Int32) &&& 31))) ^^^ (b3 ^^^ (-123008 : Int32))).toUInt32.toUInt16.toUInt32.toInt32))] t
  refine st21 _ ?_
  refine XS.ifYes X21.here hx rfl (pc0 := 240) (pc' := 269) rfl (hb hby Pea) rfl ((if0 _ _).trans (teq (by decide : (0 : Int32) = (0 : Int32))).1) (by decide) (by decide) ?_
  refine Va X21 hx hby Rea rfl rfl ?_
  refine Wa X21 hx hby Uea rfl ?_
  refine XS.iinc X21.here hx rfl (hb hby Vea) rfl (l' := #[vr t0, vi 4, vi 4, vr t1, vi ((1 : Int32) + (1 : Int32)), vi 1, vi b1, vi b2, vi b3, vi ((((b1 <<< ((12 : Int32) &&& 31)) ^^^ (b2 <<< ((6 : Int32) &&& 31))) ^^^ (b3 ^^^ (-123008 : Int32))).toUInt32.toUInt16.toUInt32.toInt32), .unset]) rfl ?_
  rw [Hm]
  refine Wa X21 hx hby Wea rfl ?_
  refine st22 _ ?_
  refine XS.goto X22.here hx rfl (pc0 := 280) (pc' := 0) rfl (hb hby Zea) (by decide) (by decide) ?_
  refine Pa X22 hx hby Hg rfl ?_
  refine Pa X22 hx hby Ig rfl ?_
  refine XS.icmpYes X22.here hx rfl (pc0 := 2) (pc' := 621) rfl (hb hby Kg) rfl (flt (by decide : ¬ ((4 : Int32) < (4 : Int32)))).2.1 (by decide) (by decide) ?_
  refine Wa X22 hx hby Wp rfl ?_
  show Za p e below m T22 623 #[vr t0, vi 4, vi 4, vr t1, vi 2, vi 1, vi b1, vi b2, vi b3, vi ((((b1 <<< ((12 : Int32) &&& 31)) ^^^ (b2 <<< ((6 : Int32) &&& 31))) ^^^ (b3 ^^^ (-123008 : Int32))).toUInt32.toUInt16.toUInt32.toInt32), .unset] [(.int 2)] t
  exact k
 exact Zb (.int 2) hNG hlk hret X22 rfl (by decide) (by decide) (fun fs hr => k23 _ (retOut X22 hx (t := .int) hret rfl (Or.inl ⟨rfl, Or.inl rfl, _, rfl⟩) (hb hby Yp) hr)) ⟨rfl, N22, O22, K22, F22_0⟩
theorem L6 : decode Ha 349 = .ok (.iload 6, 2) := by decide +kernel
theorem M6 : decode Ha 351 = .ok (.iconst 3, 1) := by decide +kernel
theorem R6 : decode Ha 352 = .ok (.ishr, 1) := by decide +kernel
theorem U6 : decode Ha 353 = .ok (.bipush (-2), 2) := by decide +kernel
theorem V6 : decode Ha 355 = .ok (.if_icmp .ne 240, 3) := by decide +kernel
theorem Afa : decode Ha 358 = .ok (.iload_n 1, 1) := by decide +kernel
theorem Bfa : decode Ha 359 = .ok (.iconst 2, 1) := by decide +kernel
theorem Dfa : decode Ha 360 = .ok (.iadd, 1) := by decide +kernel
theorem Y9a : ((2 : Int32) + (2 : Int32)) = (4 : Int32) := by decide
theorem Gfa : decode Ha 361 = .ok (.iload_n 2, 1) := by decide +kernel
theorem Hfa : decode Ha 362 = .ok (.if_icmp .ge 128, 3) := by decide +kernel
theorem Ifa : decode Ha 365 = .ok (.aload_n 0, 1) := by decide +kernel
theorem Kfa : decode Ha 366 = .ok (.iload_n 1, 1) := by decide +kernel
theorem Lfa : decode Ha 367 = .ok (.iinc 1 1, 3) := by decide +kernel
theorem Mfa : decode Ha 370 = .ok (.baload, 1) := by decide +kernel
theorem Pfa : decode Ha 371 = .ok (.istore 7, 2) := by decide +kernel
theorem Rfa : decode Ha 373 = .ok (.aload_n 0, 1) := by decide +kernel
theorem Ufa : decode Ha 374 = .ok (.iload_n 1, 1) := by decide +kernel
theorem Vfa : decode Ha 375 = .ok (.iinc 1 1, 3) := by decide +kernel
theorem Wfa : decode Ha 378 = .ok (.baload, 1) := by decide +kernel
theorem Yfa : decode Ha 379 = .ok (.istore 8, 2) := by decide +kernel
theorem Zfa : decode Ha 381 = .ok (.aload_n 0, 1) := by decide +kernel
theorem Aga : decode Ha 382 = .ok (.iload_n 1, 1) := by decide +kernel
theorem Bga : decode Ha 383 = .ok (.iinc 1 1, 3) := by decide +kernel
theorem Dga : decode Ha 386 = .ok (.baload, 1) := by decide +kernel
theorem Gga : decode Ha 387 = .ok (.istore 9, 2) := by decide +kernel
theorem Hga : decode Ha 389 = .ok (.iload 6, 2) := by decide +kernel
theorem Iga : decode Ha 391 = .ok (.iload 7, 2) := by decide +kernel
theorem Kga : decode Ha 393 = .ok (.iload 8, 2) := by decide +kernel
theorem Lga : decode Ha 395 = .ok (.iload 9, 2) := by decide +kernel
theorem Mga : decode Ha 397 = .ok (.invokestatic 411, 3) := by decide +kernel
theorem Y4a (m : MethodId) (x0 : Int32) (x1 : Int32) (x2 : Int32) (x3 : Int32)  : entryFrame m #[(.int x0), (.int x1), (.int x2), (.int x3)] 4 = mkF m 0 #[.val (.int x0), .val (.int x1), .val (.int x2), .val (.int x3)] [] := by first | (simp [entryFrame, mkF, argsToLocals, Value.category]; done) | rfl
abbrev Wc : ByteArray := jdk_42_method_37_code
theorem Kta : decode Wc 0 = .ok (.iload_n 0, 1) := by decide +kernel
theorem Lta : decode Wc 1 = .ok (.bipush 18, 2) := by decide +kernel
theorem Mta : decode Wc 3 = .ok (.ishl, 1) := by decide +kernel
theorem Pta : decode Wc 4 = .ok (.iload_n 1, 1) := by decide +kernel
theorem Rta : decode Wc 5 = .ok (.bipush 12, 2) := by decide +kernel
theorem Uta : decode Wc 7 = .ok (.ishl, 1) := by decide +kernel
theorem Vta : decode Wc 8 = .ok (.ixor, 1) := by decide +kernel
theorem Wta : decode Wc 9 = .ok (.iload_n 2, 1) := by decide +kernel
theorem Yna : decode Wc 10 = .ok (.bipush 6, 2) := by decide +kernel
theorem Zna : decode Wc 12 = .ok (.ishl, 1) := by decide +kernel
theorem Aoa : decode Wc 13 = .ok (.ixor, 1) := by decide +kernel
theorem Boa : decode Wc 14 = .ok (.iload_n 3, 1) := by decide +kernel
theorem Doa : decode Wc 15 = .ok (.ldc_w 384, 3) := by decide +kernel
theorem Goa : decode Wc 18 = .ok (.ixor, 1) := by decide +kernel
theorem Hoa : decode Wc 19 = .ok (.ixor, 1) := by decide +kernel
theorem Ioa : decode Wc 20 = .ok (.ireturn, 1) := by decide +kernel
abbrev I3a : MethodName := ⟨"java/lang/String", "decode4", "(IIII)I"⟩
theorem rm_f17 (l : Launch) (Z : State) (a0 : Array Value) (hw : Pb a0 Z) (ws : List Jvm.Cond) (q0 q1 q2 q3 : Int32) (Ra Ya Ia Ua Ka Ga Ma : Addr) (Da : Int32) (Aa : Value) (h0 : Heap) (n0 : Nat) (O0 : Old Z n0 h0) (hE : EV Z Ra Ya Ia Ua Ka Ga Ma Da Aa) :
   Ib l I3a (Jvm.Cond.code I3a jdk_42_method_37_code 4 (some .int) :: ws) (Hb 0 0 0 0) #[(.int q0), (.int q1), (.int q2), (.int q3)] Z h0 (fun v h L => v = some (.int ((((q0 <<< ((18 : Int32) &&& 31)) ^^^ (q1 <<< ((12 : Int32) &&& 31))) ^^^ (q2 <<< ((6 : Int32) &&& 31))) ^^^ (q3 ^^^ (3678080 : Int32)))) ∧ Fr n0 L ∧ h = h0) := by
 refine Db (plainFor_of_name Mb) n0 [] fun p e s m below meth c s₁ hx hby hml hown hnm hret hlk X00 e00 hZ N00 K00 hNG => ?_
 have k00 : Ab p e below m s₁ #[(.int q0), (.int q1), (.int q2), (.int q3)] 4 s₁ 0 #[vi q0, vi q1, vi q2, vi q3] [] := fun t k => castTop (Y4a m q0 q1 q2 q3 ) k
 have k10 : Ab p e below m s₁ #[(.int q0), (.int q1), (.int q2), (.int q3)] 4 s₁ 20 #[vi q0, vi q1, vi q2, vi q3] [(.int ((((q0 <<< ((18 : Int32) &&& 31)) ^^^ (q1 <<< ((12 : Int32) &&& 31))) ^^^ (q2 <<< ((6 : Int32) &&& 31))) ^^^ (q3 ^^^ (3678080 : Int32))))] := by
  intro t k
  refine k00 t ?_
  refine Pa X00 hx hby Kta rfl ?_
  refine XS.bipush X00.here hx rfl (hb hby Lta) ?_
  refine XS.ishl X00.here hx rfl (hb hby Mta) rfl ?_
  refine Pa X00 hx hby Pta rfl ?_
  refine XS.bipush X00.here hx rfl (hb hby Rta) ?_
  refine XS.ishl X00.here hx rfl (hb hby Uta) rfl ?_
  refine XS.ixor X00.here hx rfl (hb hby Vta) rfl ?_
  refine Pa X00 hx hby Wta rfl ?_
  refine XS.bipush X00.here hx rfl (hb hby Yna) ?_
  refine XS.ishl X00.here hx rfl (hb hby Zna) rfl ?_
  refine XS.ixor X00.here hx rfl (hb hby Aoa) rfl ?_
  refine Pa X00 hx hby Boa rfl ?_
  show Za p e below m s₁ 15 #[vi q0, vi q1, vi q2, vi q3] [(.int q3), (.int (((q0 <<< ((18 : Int32) &&& 31)) ^^^ (q1 <<< ((12 : Int32) &&& 31))) ^^^ (q2 <<< ((6 : Int32) &&& 31))))] t
  refine X00.ldcWI hx hown (mvT hZ (Ba hw 126 rfl)) rfl (hb hby Doa) ?_
  refine XS.ixor X00.here hx rfl (hb hby Goa) rfl ?_
  refine XS.ixor X00.here hx rfl (hb hby Hoa) rfl ?_
  exact k
 exact Zb (.int ((((q0 <<< ((18 : Int32) &&& 31)) ^^^ (q1 <<< ((12 : Int32) &&& 31))) ^^^ (q2 <<< ((6 : Int32) &&& 31))) ^^^ (q3 ^^^ (3678080 : Int32)))) hNG hlk hret X00 e00 (by decide) (by decide) (fun fs hr => k10 _ (retOut X00 hx (t := .int) hret rfl (Or.inl ⟨rfl, Or.inl rfl, _, rfl⟩) (hb hby Ioa) hr)) ⟨rfl, N00, rfl⟩
theorem L4a : parseMethodDescriptor "(IIII)I" = some ⟨[.int, .int, .int, .int], some .int⟩ := by decide +kernel
theorem Pga : decode Ha 400 = .ok (.istore 10, 2) := by decide +kernel
theorem Rga : decode Ha 402 = .ok (.iload 7, 2) := by decide +kernel
theorem Uga : decode Ha 404 = .ok (.iload 8, 2) := by decide +kernel
theorem Vga : decode Ha 406 = .ok (.iload 9, 2) := by decide +kernel
theorem Wga : decode Ha 408 = .ok (.invokestatic 415, 3) := by decide +kernel
theorem Yga : decode Ha 411 = .ok (.ifCond .ne 11, 3) := by decide +kernel
theorem Zga : decode Ha 414 = .ok (.iload 10, 2) := by decide +kernel
theorem Aha : decode Ha 416 = .ok (.invokestatic 418, 3) := by decide +kernel
theorem Bha : decode Ha 419 = .ok (.ifCond .ne 40, 3) := by decide +kernel
theorem Dha : decode Ha 459 = .ok (.aload_n 3, 1) := by decide +kernel
theorem Gha : decode Ha 460 = .ok (.iload 4, 2) := by decide +kernel
theorem Hha : decode Ha 462 = .ok (.iinc 4 1, 3) := by decide +kernel
theorem Iha : decode Ha 465 = .ok (.iload 10, 2) := by decide +kernel
theorem Kha : decode Ha 467 = .ok (.invokestatic 424, 3) := by decide +kernel
abbrev Kh : ByteArray := jdk_89_method_28_code
theorem Yta : decode Kh 0 = .ok (.iload_n 0, 1) := by decide +kernel
theorem Zta : decode Kh 1 = .ok (.bipush 10, 2) := by decide +kernel
theorem Aua : decode Kh 3 = .ok (.iushr, 1) := by decide +kernel
theorem Bua : decode Kh 4 = .ok (.ldc 110, 2) := by decide +kernel
theorem Dua : decode Kh 6 = .ok (.iadd, 1) := by decide +kernel
theorem Gua : decode Kh 7 = .ok (.i2c, 1) := by decide +kernel
theorem Hua : decode Kh 8 = .ok (.ireturn, 1) := by decide +kernel
abbrev K3a : MethodName := ⟨"java/lang/Character", "highSurrogate", "(I)C"⟩
theorem rm_f18 (l : Launch) (Z : State) (a0 : Array Value) (hw : Pb a0 Z) (ws : List Jvm.Cond) (q0 : Int32) (Ra Ya Ia Ua Ka Ga Ma : Addr) (Da : Int32) (Aa : Value) (h0 : Heap) (n0 : Nat) (O0 : Old Z n0 h0) (hE : EV Z Ra Ya Ia Ua Ka Ga Ma Da Aa) :
   Ib l K3a (Jvm.Cond.code K3a jdk_89_method_28_code 1 (some .char) :: ws) (Hb 0 0 0 0) #[(.int q0)] Z h0 (fun v h L => v = some (.int ((((q0.toUInt32 >>> ((10 : Int32) &&& 31).toUInt32).toInt32) + (55232 : Int32)).toUInt32.toUInt16.toUInt32.toInt32)) ∧ Fr n0 L ∧ h = h0) := by
 refine Db (plainFor_of_name Mv) n0 [] fun p e s m below meth c s₁ hx hby hml hown hnm hret hlk X00 e00 hZ N00 K00 hNG => ?_
 have k00 : Ab p e below m s₁ #[(.int q0)] 1 s₁ 0 #[vi q0] [] := fun t k => castTop (K6 m q0 ) k
 have k10 : Ab p e below m s₁ #[(.int q0)] 1 s₁ 8 #[vi q0] [(.int ((((q0.toUInt32 >>> ((10 : Int32) &&& 31).toUInt32).toInt32) + (55232 : Int32)).toUInt32.toUInt16.toUInt32.toInt32))] := by
  intro t k
  refine k00 t ?_
  refine Pa X00 hx hby Yta rfl ?_
  refine XS.bipush X00.here hx rfl (hb hby Zta) ?_
  refine XS.iushr X00.here hx rfl (hb hby Aua) rfl ?_
  refine X00.ldcI hx hown (mvT hZ (Ba hw 139 rfl)) rfl (hb hby Bua) ?_
  refine XS.iadd X00.here hx rfl (hb hby Dua) rfl ?_
  refine XS.i2c X00.here hx rfl (hb hby Gua) rfl ?_
  exact k
 exact Zb (.int ((((q0.toUInt32 >>> ((10 : Int32) &&& 31).toUInt32).toInt32) + (55232 : Int32)).toUInt32.toUInt16.toUInt32.toInt32)) hNG hlk hret X00 e00 (by decide) (by decide) (fun fs hr => k10 _ (retN X00 hx (t := .char) hret (by simp) (hb hby Hua) (by rw [I6]; exact hr))) ⟨rfl, N00, rfl⟩
theorem L3a : parseMethodDescriptor "(I)C" = some ⟨[.int], some .char⟩ := by decide +kernel
theorem Lha : decode Ha 470 = .ok (.invokestatic 64, 3) := by decide +kernel
theorem Mha : decode Ha 473 = .ok (.aload_n 3, 1) := by decide +kernel
theorem Pha : decode Ha 474 = .ok (.iload 4, 2) := by decide +kernel
theorem Rha : decode Ha 476 = .ok (.iinc 4 1, 3) := by decide +kernel
theorem Uha : decode Ha 479 = .ok (.iload 10, 2) := by decide +kernel
theorem Vha : decode Ha 481 = .ok (.invokestatic 428, 3) := by decide +kernel
abbrev Lh : ByteArray := jdk_89_method_29_code
theorem Iua : decode Lh 0 = .ok (.iload_n 0, 1) := by decide +kernel
theorem Kua : decode Lh 1 = .ok (.sipush 1023, 3) := by decide +kernel
theorem Lua : decode Lh 4 = .ok (.iand, 1) := by decide +kernel
theorem Mua : decode Lh 5 = .ok (.ldc 76, 2) := by decide +kernel
theorem Pua : decode Lh 7 = .ok (.iadd, 1) := by decide +kernel
theorem Rua : decode Lh 8 = .ok (.i2c, 1) := by decide +kernel
theorem Uua : decode Lh 9 = .ok (.ireturn, 1) := by decide +kernel
abbrev M3a : MethodName := ⟨"java/lang/Character", "lowSurrogate", "(I)C"⟩
theorem rm_f19 (l : Launch) (Z : State) (a0 : Array Value) (hw : Pb a0 Z) (ws : List Jvm.Cond) (q0 : Int32) (Ra Ya Ia Ua Ka Ga Ma : Addr) (Da : Int32) (Aa : Value) (h0 : Heap) (n0 : Nat) (O0 : Old Z n0 h0) (hE : EV Z Ra Ya Ia Ua Ka Ga Ma Da Aa) :
   Ib l M3a (Jvm.Cond.code M3a jdk_89_method_29_code 1 (some .char) :: ws) (Hb 0 0 0 0) #[(.int q0)] Z h0 (fun v h L => v = some (.int (((q0 &&& (1023 : Int32)) + (56320 : Int32)).toUInt32.toUInt16.toUInt32.toInt32)) ∧ Fr n0 L ∧ h = h0) := by
 refine Db (plainFor_of_name Mv) n0 [] fun p e s m below meth c s₁ hx hby hml hown hnm hret hlk X00 e00 hZ N00 K00 hNG => ?_
 have k00 : Ab p e below m s₁ #[(.int q0)] 1 s₁ 0 #[vi q0] [] := fun t k => castTop (K6 m q0 ) k
 have k10 : Ab p e below m s₁ #[(.int q0)] 1 s₁ 9 #[vi q0] [(.int (((q0 &&& (1023 : Int32)) + (56320 : Int32)).toUInt32.toUInt16.toUInt32.toInt32))] := by
  intro t k
  refine k00 t ?_
  refine Pa X00 hx hby Iua rfl ?_
  refine XS.sipush X00.here hx rfl (hb hby Kua) ?_
  refine XS.iand X00.here hx rfl (hb hby Lua) rfl ?_
  refine X00.ldcI hx hown (mvT hZ (Ba hw 144 rfl)) rfl (hb hby Mua) ?_
  refine XS.iadd X00.here hx rfl (hb hby Pua) rfl ?_
  refine XS.i2c X00.here hx rfl (hb hby Rua) rfl ?_
  exact k
 exact Zb (.int (((q0 &&& (1023 : Int32)) + (56320 : Int32)).toUInt32.toUInt16.toUInt32.toInt32)) hNG hlk hret X00 e00 (by decide) (by decide) (fun fs hr => k10 _ (retN X00 hx (t := .char) hret (by simp) (hb hby Uua) (by rw [I6]; exact hr))) ⟨rfl, N00, rfl⟩
theorem Wha : decode Ha 484 = .ok (.invokestatic 64, 3) := by decide +kernel
theorem Yha : decode Ha 487 = .ok (.goto (-487), 3) := by decide +kernel
theorem Z9a (l : Launch) (Z : State) (a0 : Array Value) (hw : Pb a0 Z) (ws : List Jvm.Cond) (t0 t1 : Addr) (k0 k1 : ClassId) (b0 b1 b2 b3 b4 x0 x1 x2 x3 x4 x5 x6 x7 x8 x9 : Int32) (Ra Ya Ia Ua Ka Ga Ma : Addr) (Da : Int32) (Aa : Value) (h0 : Heap) (n0 : Nat) (O0 : Old Z n0 h0) (hE : EV Z Ra Ya Ia Ua Ka Ga Ma Da Aa) (P0 : Arv Z h0 t0 k0 .byte (5 : Int32) [(.int b0), (.int b1), (.int b2), (.int b3), (.int b4)] (.int 0)) (P1 : Arv Z h0 t1 k1 .byte (10 : Int32) [(.int x0), (.int x1), (.int x2), (.int x3), (.int x4), (.int x5), (.int x6), (.int x7), (.int x8), (.int x9)] (.int 0)) (g_t1 : n0 ≤ t1) (nt : ¬ (t0 = t1)) (m0 : ¬ (b0 < (0 : Int32))) (m1 : b1 < (0 : Int32)) (m2 : ¬ ((b1 &&& (254 : Int32)) = (194 : Int32))) (m3 : ¬ ((b1 >>> ((5 : Int32) &&& 31)) = (-2 : Int32))) (m4 : ¬ ((b1 >>> ((4 : Int32) &&& 31)) = (-2 : Int32))) (m5 : (b1 >>> ((3 : Int32) &&& 31)) = (-2 : Int32)) (m6 : (b2 &&& (192 : Int32)) = (128 : Int32)) (m7 : (b3 &&& (192 : Int32)) = (128 : Int32)) (m8 : (b4 &&& (192 : Int32)) = (128 : Int32)) (hs1 : ¬ (((((b1 <<< ((18 : Int32) &&& 31)) ^^^ (b2 <<< ((12 : Int32) &&& 31))) ^^^ (b3 <<< ((6 : Int32) &&& 31))) ^^^ (b4 ^^^ (3678080 : Int32))) < (65536 : Int32))) (hs2 : ((((b1 <<< ((18 : Int32) &&& 31)) ^^^ (b2 <<< ((12 : Int32) &&& 31))) ^^^ (b3 <<< ((6 : Int32) &&& 31))) ^^^ (b4 ^^^ (3678080 : Int32))) < (1114112 : Int32)) :
   Ib l Pba (Jvm.Cond.code Pba jdk_42_method_38_code 11 (some .int) :: ws) (Hb 1 0 0 15) #[(.ref t0), (.int 1), (.int 5), (.ref t1), (.int 1), (.int 1)] Z h0 (fun v h L => v = some (.int 3) ∧ Fr n0 L ∧ Old Z n0 h ∧ Keep h0 h [t1] ∧ Arv Z h t1 k1 .byte (10 : Int32) [(.int x0), (.int x1), (.int ((((((((((b1 <<< ((18 : Int32) &&& 31)) ^^^ (b2 <<< ((12 : Int32) &&& 31))) ^^^ (b3 <<< ((6 : Int32) &&& 31))) ^^^ (b4 ^^^ (3678080 : Int32))).toUInt32 >>> ((10 : Int32) &&& 31).toUInt32).toInt32) + (55232 : Int32)).toUInt32.toUInt16.toUInt32.toInt32) >>> ((0 : Int32) &&& 31)).toInt8.toInt32)), (.int ((((((((((b1 <<< ((18 : Int32) &&& 31)) ^^^ (b2 <<< ((12 : Int32) &&& 31))) ^^^ (b3 <<< ((6 : Int32) &&& 31))) ^^^ (b4 ^^^ (3678080 : Int32))).toUInt32 >>> ((10 : Int32) &&& 31).toUInt32).toInt32) + (55232 : Int32)).toUInt32.toUInt16.toUInt32.toInt32) >>> ((8 : Int32) &&& 31)).toInt8.toInt32)), (.int (((((((((b1 <<< ((18 : Int32) &&& 31)) ^^^ (b2 <<< ((12 : Int32) &&& 31))) ^^^ (b3 <<< ((6 : Int32) &&& 31))) ^^^ (b4 ^^^ (3678080 : Int32))) &&& (1023 : Int32)) + (56320 : Int32)).toUInt32.toUInt16.toUInt32.toInt32) >>> ((0 : Int32) &&& 31)).toInt8.toInt32)), (.int (((((((((b1 <<< ((18 : Int32) &&& 31)) ^^^ (b2 <<< ((12 : Int32) &&& 31))) ^^^ (b3 <<< ((6 : Int32) &&& 31))) ^^^ (b4 ^^^ (3678080 : Int32))) &&& (1023 : Int32)) + (56320 : Int32)).toUInt32.toUInt16.toUInt32.toInt32) >>> ((8 : Int32) &&& 31)).toInt8.toInt32)), (.int x6), (.int x7), (.int x8), (.int x9)] (.int 0)) := by
 refine Db (plainFor_of_name Mb) n0 [t1] fun p e s m below meth c s₁ hx hby hml hown hnm hret hlk X00 e00 hZ N00 K00 hNG => ?_
 have k00 : Ab p e below m s₁ #[(.ref t0), (.int 1), (.int 5), (.ref t1), (.int 1), (.int 1)] 11 s₁ 0 #[vr t0, vi 1, vi 5, vr t1, vi 1, vi 1, .unset, .unset, .unset, .unset, .unset] [] := fun t k => castTop (Uba m t0 (1 : Int32) (5 : Int32) t1 (1 : Int32) (1 : Int32) ) k
 obtain ⟨cl10, Ar10, q10, Sz10, Nn10, Hs10, Gf10⟩ := id P0
 have hin11 := inb_of (j := 1) Sz10 ⟨by decide, by decide⟩
 have hat12 : cl10.slots[((1 : Int32)).toNatClampNeg]? = some (.int b1) := Hs10.at hin11 rfl
 obtain ⟨cl13, Ar13, q13, Sz13, Nn13, Hs13, Gf13⟩ := id P0
 have hin14 := inb_of (j := 2) Sz13 ⟨by decide, by decide⟩
 have hat15 : cl13.slots[((2 : Int32)).toNatClampNeg]? = some (.int b2) := Hs13.at hin14 rfl
 obtain ⟨cl16, Ar16, q16, Sz16, Nn16, Hs16, Gf16⟩ := id P0
 have hin17 := inb_of (j := 3) Sz16 ⟨by decide, by decide⟩
 have hat18 : cl16.slots[((3 : Int32)).toNatClampNeg]? = some (.int b3) := Hs16.at hin17 rfl
 obtain ⟨cl19, Ar19, q19, Sz19, Nn19, Hs19, Gf19⟩ := id P0
 have hin20 := inb_of (j := 4) Sz19 ⟨by decide, by decide⟩
 have hat21 : cl19.slots[((4 : Int32)).toNatClampNeg]? = some (.int b4) := Hs19.at hin20 rfl
 obtain ⟨v22, T22, Lc22, X22, hQ22, st22⟩ := Ub X00 hx hZ hown (rm_f17 l Z a0 hw [] b1 b2 b3 b4 _ _ _ _ _ _ _ _ _ h0 n0 O0 hE ) (Ba hw 123 rfl) (Ba hw 124 rfl) (Ba hw 29 rfl) (Ba hw 125 rfl) e00 (g := (mkF m 397 #[vr t0, vi 5, vi 5, vr t1, vi 1, vi 1, vi b1, vi b2, vi b3, vi b4, .unset] [(.int b4), (.int b3), (.int b2), (.int b1)])) rfl (by rw [hml]; rfl) (argsL := [(.int b1), (.int b2), (.int b3), (.int b4)]) (rest := []) rfl (lenOf L4a rfl) rfl (W := 0) (by show 2 * 0 + _ ≤ _; exact Nat.le_of_eq rfl) (hb hby Mga) (by decide) (by decide) (by decide) (by decide) (by decide)
 obtain ⟨rfl, N22q, hp22⟩ := hQ22
 have N22 := Fr.app N00 N22q
 obtain ⟨v23, T23, Lc23, X23, hQ23, st23⟩ := Ub X22 hx hZ hown (rm_mf4 l Z a0 hw [] b2 b3 b4 _ _ _ _ _ _ _ _ _ h0 n0 O0 hE  m6 m7 m8) (Ba hw 127 rfl) (Ba hw 128 rfl) (Ba hw 29 rfl) (Ba hw 129 rfl) hp22 (g := (mkF m 408 #[vr t0, vi 5, vi 5, vr t1, vi 1, vi 1, vi b1, vi b2, vi b3, vi b4, vi ((((b1 <<< ((18 : Int32) &&& 31)) ^^^ (b2 <<< ((12 : Int32) &&& 31))) ^^^ (b3 <<< ((6 : Int32) &&& 31))) ^^^ (b4 ^^^ (3678080 : Int32)))] [(.int b4), (.int b3), (.int b2)])) rfl (by rw [hml]; rfl) (argsL := [(.int b2), (.int b3), (.int b4)]) (rest := []) rfl (lenOf K1a rfl) rfl (W := 0) (by show 2 * 0 + _ ≤ _; exact Nat.le_of_eq rfl) (hb hby Wga) (by decide) (by decide) (by decide) (by decide) (by decide)
 obtain ⟨rfl, N23q, hp23⟩ := hQ23
 have N23 := Fr.app N22 N23q
 obtain ⟨v24, T24, Lc24, X24, hQ24, st24⟩ := Ub X23 hx hZ hown (rm_sup l Z a0 hw [] ((((b1 <<< ((18 : Int32) &&& 31)) ^^^ (b2 <<< ((12 : Int32) &&& 31))) ^^^ (b3 <<< ((6 : Int32) &&& 31))) ^^^ (b4 ^^^ (3678080 : Int32))) _ _ _ _ _ _ _ _ _ h0 n0 O0 hE  hs1 hs2) (Ba hw 130 rfl) (Ba hw 131 rfl) (Ba hw 132 rfl) (Ba hw 133 rfl) hp23 (g := (mkF m 416 #[vr t0, vi 5, vi 5, vr t1, vi 1, vi 1, vi b1, vi b2, vi b3, vi b4, vi ((((b1 <<< ((18 : Int32) &&& 31)) ^^^ (b2 <<< ((12 : Int32) &&& 31))) ^^^ (b3 <<< ((6 : Int32) &&& 31))) ^^^ (b4 ^^^ (3678080 : Int32)))] [(.int ((((b1 <<< ((18 : Int32) &&& 31)) ^^^ (b2 <<< ((12 : Int32) &&& 31))) ^^^ (b3 <<< ((6 : Int32) &&& 31))) ^^^ (b4 ^^^ (3678080 : Int32))))])) rfl (by rw [hml]; rfl) (argsL := [(.int ((((b1 <<< ((18 : Int32) &&& 31)) ^^^ (b2 <<< ((12 : Int32) &&& 31))) ^^^ (b3 <<< ((6 : Int32) &&& 31))) ^^^ (b4 ^^^ (3678080 : Int32))))]) (rest := []) rfl (lenOf D3a rfl) rfl (W := 0) (by show 2 * 0 + _ ≤ _; exact Nat.le_of_eq rfl) (hb hby Aha) (by decide) (by decide) (by decide) (by decide) (by decide)
 obtain ⟨rfl, N24q, hp24⟩ := hQ24
 have N24 := Fr.app N23 N24q
 obtain ⟨v25, T25, Lc25, X25, hQ25, st25⟩ := Ub X24 hx hZ hown (rm_f18 l Z a0 hw [] ((((b1 <<< ((18 : Int32) &&& 31)) ^^^ (b2 <<< ((12 : Int32) &&& 31))) ^^^ (b3 <<< ((6 : Int32) &&& 31))) ^^^ (b4 ^^^ (3678080 : Int32))) _ _ _ _ _ _ _ _ _ h0 n0 O0 hE ) (Ba hw 136 rfl) (Ba hw 137 rfl) (Ba hw 132 rfl) (Ba hw 138 rfl) hp24 (g := (mkF m 467 #[vr t0, vi 5, vi 5, vr t1, vi 2, vi 1, vi b1, vi b2, vi b3, vi b4, vi ((((b1 <<< ((18 : Int32) &&& 31)) ^^^ (b2 <<< ((12 : Int32) &&& 31))) ^^^ (b3 <<< ((6 : Int32) &&& 31))) ^^^ (b4 ^^^ (3678080 : Int32)))] [(.int ((((b1 <<< ((18 : Int32) &&& 31)) ^^^ (b2 <<< ((12 : Int32) &&& 31))) ^^^ (b3 <<< ((6 : Int32) &&& 31))) ^^^ (b4 ^^^ (3678080 : Int32)))), (.int 1), (.ref t1)])) rfl (by rw [hml]; rfl) (argsL := [(.int ((((b1 <<< ((18 : Int32) &&& 31)) ^^^ (b2 <<< ((12 : Int32) &&& 31))) ^^^ (b3 <<< ((6 : Int32) &&& 31))) ^^^ (b4 ^^^ (3678080 : Int32))))]) (rest := [(.int 1), (.ref t1)]) rfl (lenOf L3a rfl) rfl (W := 2) (by show 2 * 0 + _ ≤ _; exact Nat.le_of_eq rfl) (hb hby Kha) (by decide) (by decide) (by decide) (by decide) (by decide)
 obtain ⟨rfl, N25q, hp25⟩ := hQ25
 have N25 := Fr.app N24 N25q
 obtain ⟨v26, T26, Lc26, X26, hQ26, st26⟩ := Ub X25 hx hZ hown (W5a l Z a0 hw [] t1 k1 ((((((((b1 <<< ((18 : Int32) &&& 31)) ^^^ (b2 <<< ((12 : Int32) &&& 31))) ^^^ (b3 <<< ((6 : Int32) &&& 31))) ^^^ (b4 ^^^ (3678080 : Int32))).toUInt32 >>> ((10 : Int32) &&& 31).toUInt32).toInt32) + (55232 : Int32)).toUInt32.toUInt16.toUInt32.toInt32) x0 x1 x2 x3 x4 x5 x6 x7 x8 x9 _ _ _ _ _ _ _ _ _ h0 n0 O0 hE P1 g_t1 ) (Ba hw 140 rfl) (Ba hw 115 rfl) (Ba hw 87 rfl) (Ba hw 116 rfl) hp25 (g := (mkF m 470 #[vr t0, vi 5, vi 5, vr t1, vi 2, vi 1, vi b1, vi b2, vi b3, vi b4, vi ((((b1 <<< ((18 : Int32) &&& 31)) ^^^ (b2 <<< ((12 : Int32) &&& 31))) ^^^ (b3 <<< ((6 : Int32) &&& 31))) ^^^ (b4 ^^^ (3678080 : Int32)))] [(.int ((((((((b1 <<< ((18 : Int32) &&& 31)) ^^^ (b2 <<< ((12 : Int32) &&& 31))) ^^^ (b3 <<< ((6 : Int32) &&& 31))) ^^^ (b4 ^^^ (3678080 : Int32))).toUInt32 >>> ((10 : Int32) &&& 31).toUInt32).toInt32) + (55232 : Int32)).toUInt32.toUInt16.toUInt32.toInt32)), (.int 1), (.ref t1)])) rfl (by rw [hml]; rfl) (argsL := [(.ref t1), (.int 1), (.int ((((((((b1 <<< ((18 : Int32) &&& 31)) ^^^ (b2 <<< ((12 : Int32) &&& 31))) ^^^ (b3 <<< ((6 : Int32) &&& 31))) ^^^ (b4 ^^^ (3678080 : Int32))).toUInt32 >>> ((10 : Int32) &&& 31).toUInt32).toInt32) + (55232 : Int32)).toUInt32.toUInt16.toUInt32.toInt32))]) (rest := []) rfl (lenOf Go rfl) rfl (W := 0) (by show 2 * 0 + _ ≤ _; exact Nat.le_of_eq rfl) (hb hby Lha) (by decide) (by decide) (by decide) (by decide) (by decide)
 obtain ⟨rfl, N26q, O26, Kc26, F26_0⟩ := hQ26
 have N26 := Fr.app N25 N26q
 have K26 := K00.trans Kc26 (allS (Or.inl (List.mem_of_getElem? (i := 0) rfl)) all0)
 obtain ⟨v27, T27, Lc27, X27, hQ27, st27⟩ := Ub X26 hx hZ hown (rm_f19 l Z a0 hw [] ((((b1 <<< ((18 : Int32) &&& 31)) ^^^ (b2 <<< ((12 : Int32) &&& 31))) ^^^ (b3 <<< ((6 : Int32) &&& 31))) ^^^ (b4 ^^^ (3678080 : Int32))) _ _ _ _ _ _ _ _ _ T26.heap n0 O26 hE ) (Ba hw 141 rfl) (Ba hw 142 rfl) (Ba hw 132 rfl) (Ba hw 143 rfl) rfl (g := (mkF m 481 #[vr t0, vi 5, vi 5, vr t1, vi 3, vi 1, vi b1, vi b2, vi b3, vi b4, vi ((((b1 <<< ((18 : Int32) &&& 31)) ^^^ (b2 <<< ((12 : Int32) &&& 31))) ^^^ (b3 <<< ((6 : Int32) &&& 31))) ^^^ (b4 ^^^ (3678080 : Int32)))] [(.int ((((b1 <<< ((18 : Int32) &&& 31)) ^^^ (b2 <<< ((12 : Int32) &&& 31))) ^^^ (b3 <<< ((6 : Int32) &&& 31))) ^^^ (b4 ^^^ (3678080 : Int32)))), (.int 2), (.ref t1)])) rfl (by rw [hml]; rfl) (argsL := [(.int ((((b1 <<< ((18 : Int32) &&& 31)) ^^^ (b2 <<< ((12 : Int32) &&& 31))) ^^^ (b3 <<< ((6 : Int32) &&& 31))) ^^^ (b4 ^^^ (3678080 : Int32))))]) (rest := [(.int 2), (.ref t1)]) rfl (lenOf L3a rfl) rfl (W := 2) (by show 2 * 0 + _ ≤ _; exact Nat.le_of_eq rfl) (hb hby Vha) (by decide) (by decide) (by decide) (by decide) (by decide)
 obtain ⟨rfl, N27q, hp27⟩ := hQ27
 have N27 := Fr.app N26 N27q
 obtain ⟨v28, T28, Lc28, X28, hQ28, st28⟩ := Ub X27 hx hZ hown (Y5a l Z a0 hw [] t1 k1 (((((((b1 <<< ((18 : Int32) &&& 31)) ^^^ (b2 <<< ((12 : Int32) &&& 31))) ^^^ (b3 <<< ((6 : Int32) &&& 31))) ^^^ (b4 ^^^ (3678080 : Int32))) &&& (1023 : Int32)) + (56320 : Int32)).toUInt32.toUInt16.toUInt32.toInt32) x0 x1 ((((((((((b1 <<< ((18 : Int32) &&& 31)) ^^^ (b2 <<< ((12 : Int32) &&& 31))) ^^^ (b3 <<< ((6 : Int32) &&& 31))) ^^^ (b4 ^^^ (3678080 : Int32))).toUInt32 >>> ((10 : Int32) &&& 31).toUInt32).toInt32) + (55232 : Int32)).toUInt32.toUInt16.toUInt32.toInt32) >>> ((0 : Int32) &&& 31)).toInt8.toInt32) ((((((((((b1 <<< ((18 : Int32) &&& 31)) ^^^ (b2 <<< ((12 : Int32) &&& 31))) ^^^ (b3 <<< ((6 : Int32) &&& 31))) ^^^ (b4 ^^^ (3678080 : Int32))).toUInt32 >>> ((10 : Int32) &&& 31).toUInt32).toInt32) + (55232 : Int32)).toUInt32.toUInt16.toUInt32.toInt32) >>> ((8 : Int32) &&& 31)).toInt8.toInt32) x4 x5 x6 x7 x8 x9 _ _ _ _ _ _ _ _ _ T26.heap n0 O26 hE F26_0 g_t1 ) (Ba hw 140 rfl) (Ba hw 115 rfl) (Ba hw 87 rfl) (Ba hw 116 rfl) hp27 (g := (mkF m 484 #[vr t0, vi 5, vi 5, vr t1, vi 3, vi 1, vi b1, vi b2, vi b3, vi b4, vi ((((b1 <<< ((18 : Int32) &&& 31)) ^^^ (b2 <<< ((12 : Int32) &&& 31))) ^^^ (b3 <<< ((6 : Int32) &&& 31))) ^^^ (b4 ^^^ (3678080 : Int32)))] [(.int (((((((b1 <<< ((18 : Int32) &&& 31)) ^^^ (b2 <<< ((12 : Int32) &&& 31))) ^^^ (b3 <<< ((6 : Int32) &&& 31))) ^^^ (b4 ^^^ (3678080 : Int32))) &&& (1023 : Int32)) + (56320 : Int32)).toUInt32.toUInt16.toUInt32.toInt32)), (.int 2), (.ref t1)])) rfl (by rw [hml]; rfl) (argsL := [(.ref t1), (.int 2), (.int (((((((b1 <<< ((18 : Int32) &&& 31)) ^^^ (b2 <<< ((12 : Int32) &&& 31))) ^^^ (b3 <<< ((6 : Int32) &&& 31))) ^^^ (b4 ^^^ (3678080 : Int32))) &&& (1023 : Int32)) + (56320 : Int32)).toUInt32.toUInt16.toUInt32.toInt32))]) (rest := []) rfl (lenOf Go rfl) rfl (W := 0) (by show 2 * 0 + _ ≤ _; exact Nat.le_of_eq rfl) (hb hby Wha) (by decide) (by decide) (by decide) (by decide) (by decide)
 obtain ⟨rfl, N28q, O28, Kc28, F28_0⟩ := hQ28
 have N28 := Fr.app N27 N28q
 have K28 := K26.trans Kc28 (allS (Or.inl (List.mem_of_getElem? (i := 0) rfl)) all0)
 have k29 : Ab p e below m s₁ #[(.ref t0), (.int 1), (.int 5), (.ref t1), (.int 1), (.int 1)] 11 T28 623 #[vr t0, vi 5, vi 5, vr t1, vi 3, vi 1, vi b1, vi b2, vi b3, vi b4, vi ((((b1 <<< ((18 : Int32) &&& 31)) ^^^ (b2 <<< ((12 : Int32) &&& 31))) ^^^ (b3 <<< ((6 : Int32) &&& 31))) ^^^ (b4 ^^^ (3678080 : Int32)))] [(.int 3)] := by
  intro t k
  refine k00 t ?_
  refine Pa X00 hx hby Hg rfl ?_
  refine Pa X00 hx hby Ig rfl ?_
  refine XS.icmpNo X00.here hx rfl (hb hby Kg) rfl (tlt (by decide : (1 : Int32) < (5 : Int32))).2.1 ?_
  refine Va X00 hx hby Io rfl rfl ?_
  refine Pa X00 hx hby Ko rfl ?_
  refine XS.iinc X00.here hx rfl (hb hby Lo) rfl (l' := #[vr t0, vi ((1 : Int32) + (1 : Int32)), vi 5, vr t1, vi 1, vi 1, .unset, .unset, .unset, .unset, .unset]) rfl ?_
  rw [Hm]
  refine X00.baloadBytes hx (j := 1) (v := (.int b1)) (by rw [e00]; exact Ar10.1) (State.isArrayOf_alike hZ.alike Ar10.2.1) Ar10.2.2 hin11 hat12 (g := (mkF m 10 #[vr t0, vi 2, vi 5, vr t1, vi 1, vi 1, .unset, .unset, .unset, .unset, .unset] [(.int 1), (.ref t0)])) rfl rfl (hb hby Gn) _ ?_
  refine XS.istore X00.here hx rfl (hb hby Hn) rfl (l' := #[vr t0, vi 2, vi 5, vr t1, vi 1, vi 1, vi b1, .unset, .unset, .unset, .unset]) rfl ?_
  refine Wa X00 hx hby Kn rfl ?_
  refine XS.ifYes X00.here hx rfl (pc0 := 15) (pc' := 33) rfl (hb hby Ln) rfl ((if0 _ _).trans (tlt m1).1) (by decide) (by decide) ?_
  refine Wa X00 hx hby Gt rfl ?_
  refine XS.iconst X00.here hx rfl (hb hby Ht) ?_
  show Za p e below m s₁ 36 #[vr t0, vi 2, vi 5, vr t1, vi 1, vi 1, vi b1, .unset, .unset, .unset, .unset] [(.int 5), (.int b1)] t
  refine XS.ishr X00.here hx rfl (hb hby It) rfl ?_
  refine XS.bipush X00.here hx rfl (hb hby Kt) ?_
  refine XS.icmpYes X00.here hx rfl (pc0 := 39) (pc' := 143) rfl (hb hby Lt) rfl (feq m3).2 (by decide) (by decide) ?_
  refine Wa X00 hx hby Pw rfl ?_
  refine XS.iconst X00.here hx rfl (hb hby Rw) ?_
  refine XS.ishr X00.here hx rfl (hb hby Uw) rfl ?_
  refine XS.bipush X00.here hx rfl (hb hby Vw) ?_
  refine XS.icmpYes X00.here hx rfl (pc0 := 149) (pc' := 349) rfl (hb hby Ww) rfl (feq m4).2 (by decide) (by decide) ?_
  refine Wa X00 hx hby L6 rfl ?_
  refine XS.iconst X00.here hx rfl (hb hby M6) ?_
  refine XS.ishr X00.here hx rfl (hb hby R6) rfl ?_
  refine XS.bipush X00.here hx rfl (hb hby U6) ?_
  show Za p e below m s₁ 355 #[vr t0, vi 2, vi 5, vr t1, vi 1, vi 1, vi b1, .unset, .unset, .unset, .unset] [(.int (-2)), (.int (b1 >>> ((3 : Int32) &&& 31)))] t
  refine XS.icmpNo X00.here hx rfl (hb hby V6) rfl (teq m5).2 ?_
  refine Pa X00 hx hby Afa rfl ?_
  refine XS.iconst X00.here hx rfl (hb hby Bfa) ?_
  refine XS.iadd X00.here hx rfl (hb hby Dfa) rfl ?_
  show Za p e below m s₁ 361 #[vr t0, vi 2, vi 5, vr t1, vi 1, vi 1, vi b1, .unset, .unset, .unset, .unset] [(.int ((2 : Int32) + (2 : Int32)))] t
  rw [Y9a]
  refine Pa X00 hx hby Gfa rfl ?_
  refine XS.icmpNo X00.here hx rfl (hb hby Hfa) rfl (tlt (by decide : (4 : Int32) < (5 : Int32))).2.1 ?_
  refine Va X00 hx hby Ifa rfl rfl ?_
  refine Pa X00 hx hby Kfa rfl ?_
  refine XS.iinc X00.here hx rfl (hb hby Lfa) rfl (l' := #[vr t0, vi ((2 : Int32) + (1 : Int32)), vi 5, vr t1, vi 1, vi 1, vi b1, .unset, .unset, .unset, .unset]) rfl ?_
  rw [Lv]
  refine X00.baloadBytes hx (j := 2) (v := (.int b2)) (by rw [e00]; exact Ar13.1) (State.isArrayOf_alike hZ.alike Ar13.2.1) Ar13.2.2 hin14 hat15 (g := (mkF m 370 #[vr t0, vi 3, vi 5, vr t1, vi 1, vi 1, vi b1, .unset, .unset, .unset, .unset] [(.int 2), (.ref t0)])) rfl rfl (hb hby Mfa) _ ?_
  refine XS.istore X00.here hx rfl (hb hby Pfa) rfl (l' := #[vr t0, vi 3, vi 5, vr t1, vi 1, vi 1, vi b1, vi b2, .unset, .unset, .unset]) rfl ?_
  refine Va X00 hx hby Rfa rfl rfl ?_
  refine Pa X00 hx hby Ufa rfl ?_
  refine XS.iinc X00.here hx rfl (hb hby Vfa) rfl (l' := #[vr t0, vi ((3 : Int32) + (1 : Int32)), vi 5, vr t1, vi 1, vi 1, vi b1, vi b2, .unset, .unset, .unset]) rfl ?_
  rw [Lza]
  refine X00.baloadBytes hx (j := 3) (v := (.int b3)) (by rw [e00]; exact Ar16.1) (State.isArrayOf_alike hZ.alike Ar16.2.1) Ar16.2.2 hin17 hat18 (g := (mkF m 378 #[vr t0, vi 4, vi 5, vr t1, vi 1, vi 1, vi b1, vi b2, .unset, .unset, .unset] [(.int 3), (.ref t0)])) rfl rfl (hb hby Wfa) _ ?_
  show Za p e below m s₁ 379 #[vr t0, vi 4, vi 5, vr t1, vi 1, vi 1, vi b1, vi b2, .unset, .unset, .unset] [(.int b3)] t
  refine XS.istore X00.here hx rfl (hb hby Yfa) rfl (l' := #[vr t0, vi 4, vi 5, vr t1, vi 1, vi 1, vi b1, vi b2, vi b3, .unset, .unset]) rfl ?_
  refine Va X00 hx hby Zfa rfl rfl ?_
  refine Pa X00 hx hby Aga rfl ?_
  refine XS.iinc X00.here hx rfl (hb hby Bga) rfl (l' := #[vr t0, vi ((4 : Int32) + (1 : Int32)), vi 5, vr t1, vi 1, vi 1, vi b1, vi b2, vi b3, .unset, .unset]) rfl ?_
  rw [U0a]
  refine X00.baloadBytes hx (j := 4) (v := (.int b4)) (by rw [e00]; exact Ar19.1) (State.isArrayOf_alike hZ.alike Ar19.2.1) Ar19.2.2 hin20 hat21 (g := (mkF m 386 #[vr t0, vi 5, vi 5, vr t1, vi 1, vi 1, vi b1, vi b2, vi b3, .unset, .unset] [(.int 4), (.ref t0)])) rfl rfl (hb hby Dga) _ ?_
  refine XS.istore X00.here hx rfl (hb hby Gga) rfl (l' := #[vr t0, vi 5, vi 5, vr t1, vi 1, vi 1, vi b1, vi b2, vi b3, vi b4, .unset]) rfl ?_
  refine Wa X00 hx hby Hga rfl ?_
  refine Wa X00 hx hby Iga rfl ?_
  refine Wa X00 hx hby Kga rfl ?_
  refine Wa X00 hx hby Lga rfl ?_
  refine st22 _ ?_
  refine XS.istore X22.here hx rfl (hb hby Pga) rfl (l' := #[vr t0, vi 5, vi 5, vr t1, vi 1, vi 1, vi b1, vi b2, vi b3, vi b4, vi ((((b1 <<< ((18 : Int32) &&& 31)) ^^^ (b2 <<< ((12 : Int32) &&& 31))) ^^^ (b3 <<< ((6 : Int32) &&& 31))) ^^^ (b4 ^^^ (3678080 : Int32)))]) rfl ?_
  show Za p e below m T22 402 #[vr t0, vi 5, vi 5, vr t1, vi 1, vi 1, vi b1, vi b2, vi b3, vi b4, vi ((((b1 <<< ((18 : Int32) &&& 31)) ^^^ (b2 <<< ((12 : Int32) &&& 31))) ^^^ (b3 <<< ((6 : Int32) &&& 31))) ^^^ (b4 ^^^ (3678080 : Int32)))] [] t
  refine Wa X22 hx hby Rga rfl ?_
  refine Wa X22 hx hby Uga rfl ?_
  refine Wa X22 hx hby Vga rfl ?_
  refine st23 _ ?_
  refine XS.ifNo X23.here hx rfl (hb hby Yga) rfl ((if0 _ _).trans (teq (by decide : (0 : Int32) = (0 : Int32))).2) ?_
  refine Wa X23 hx hby Zga rfl ?_
  refine st24 _ ?_
  refine XS.ifYes X24.here hx rfl (pc0 := 419) (pc' := 459) rfl (hb hby Bha) rfl ((if0 _ _).trans (feq (by decide : ¬ ((1 : Int32) = (0 : Int32)))).2) (by decide) (by decide) ?_
  refine Va X24 hx hby Dha rfl rfl ?_
  refine Wa X24 hx hby Gha rfl ?_
  refine XS.iinc X24.here hx rfl (hb hby Hha) rfl (l' := #[vr t0, vi 5, vi 5, vr t1, vi ((1 : Int32) + (1 : Int32)), vi 1, vi b1, vi b2, vi b3, vi b4, vi ((((b1 <<< ((18 : Int32) &&& 31)) ^^^ (b2 <<< ((12 : Int32) &&& 31))) ^^^ (b3 <<< ((6 : Int32) &&& 31))) ^^^ (b4 ^^^ (3678080 : Int32)))]) rfl ?_
  rw [Hm]
  refine Wa X24 hx hby Iha rfl ?_
  show Za p e below m T24 467 #[vr t0, vi 5, vi 5, vr t1, vi 2, vi 1, vi b1, vi b2, vi b3, vi b4, vi ((((b1 <<< ((18 : Int32) &&& 31)) ^^^ (b2 <<< ((12 : Int32) &&& 31))) ^^^ (b3 <<< ((6 : Int32) &&& 31))) ^^^ (b4 ^^^ (3678080 : Int32)))] [(.int ((((b1 <<< ((18 : Int32) &&& 31)) ^^^ (b2 <<< ((12 : Int32) &&& 31))) ^^^ (b3 <<< ((6 : Int32) &&& 31))) ^^^ (b4 ^^^ (3678080 : Int32)))), (.int 1), (.ref t1)] t
  refine st25 _ ?_
  refine st26 _ ?_
  refine Va X26 hx hby Mha rfl rfl ?_
  refine Wa X26 hx hby Pha rfl ?_
  refine XS.iinc X26.here hx rfl (hb hby Rha) rfl (l' := #[vr t0, vi 5, vi 5, vr t1, vi ((2 : Int32) + (1 : Int32)), vi 1, vi b1, vi b2, vi b3, vi b4, vi ((((b1 <<< ((18 : Int32) &&& 31)) ^^^ (b2 <<< ((12 : Int32) &&& 31))) ^^^ (b3 <<< ((6 : Int32) &&& 31))) ^^^ (b4 ^^^ (3678080 : Int32)))]) rfl ?_
  rw [Lv]
  refine Wa X26 hx hby Uha rfl ?_
  refine st27 _ ?_
  refine st28 _ ?_
  refine XS.goto X28.here hx rfl (pc0 := 487) (pc' := 0) rfl (hb hby Yha) (by decide) (by decide) ?_
  refine Pa X28 hx hby Hg rfl ?_
  refine Pa X28 hx hby Ig rfl ?_
  refine XS.icmpYes X28.here hx rfl (pc0 := 2) (pc' := 621) rfl (hb hby Kg) rfl (flt (by decide : ¬ ((5 : Int32) < (5 : Int32)))).2.1 (by decide) (by decide) ?_
  show Za p e below m T28 621 #[vr t0, vi 5, vi 5, vr t1, vi 3, vi 1, vi b1, vi b2, vi b3, vi b4, vi ((((b1 <<< ((18 : Int32) &&& 31)) ^^^ (b2 <<< ((12 : Int32) &&& 31))) ^^^ (b3 <<< ((6 : Int32) &&& 31))) ^^^ (b4 ^^^ (3678080 : Int32)))] [] t
  refine Wa X28 hx hby Wp rfl ?_
  exact k
 exact Zb (.int 3) hNG hlk hret X28 rfl (by decide) (by decide) (fun fs hr => k29 _ (retOut X28 hx (t := .int) hret rfl (Or.inl ⟨rfl, Or.inl rfl, _, rfl⟩) (hb hby Yp) hr)) ⟨rfl, N28, O28, K28, F28_0⟩
theorem Zha : decode Ha 595 = .ok (.iload 5, 2) := by decide +kernel
theorem Aia : decode Ha 597 = .ok (.ifCond .ne 10, 3) := by decide +kernel
theorem Bia : decode Ha 607 = .ok (.aload_n 3, 1) := by decide +kernel
theorem Dia : decode Ha 608 = .ok (.iload 4, 2) := by decide +kernel
theorem Gia : decode Ha 610 = .ok (.iinc 4 1, 3) := by decide +kernel
theorem Hia : decode Ha 613 = .ok (.ldc 132, 2) := by decide +kernel
theorem Iia : decode Ha 615 = .ok (.invokestatic 64, 3) := by decide +kernel
theorem W6 : decode Ha 618 = .ok (.goto (-618), 3) := by decide +kernel
theorem Koa : decode Ha 18 = .ok (.aload_n 3, 1) := by decide +kernel
theorem Loa : decode Ha 19 = .ok (.iload 4, 2) := by decide +kernel
theorem Moa : decode Ha 21 = .ok (.iinc 4 1, 3) := by decide +kernel
theorem Poa : decode Ha 24 = .ok (.iload 6, 2) := by decide +kernel
theorem Roa : decode Ha 26 = .ok (.i2c, 1) := by decide +kernel
theorem Uoa : decode Ha 27 = .ok (.invokestatic 64, 3) := by decide +kernel
theorem Voa : decode Ha 30 = .ok (.goto 588, 3) := by decide +kernel
theorem Aab (l : Launch) (Z : State) (a0 : Array Value) (hw : Pb a0 Z) (ws : List Jvm.Cond) (t0 t1 : Addr) (k0 k1 : ClassId) (b0 b1 b2 x0 x1 x2 x3 x4 x5 : Int32) (Ra Ya Ia Ua Ka Ga Ma : Addr) (Da : Int32) (Aa : Value) (h0 : Heap) (n0 : Nat) (O0 : Old Z n0 h0) (hE : EV Z Ra Ya Ia Ua Ka Ga Ma Da Aa) (P0 : Arv Z h0 t0 k0 .byte (3 : Int32) [(.int b0), (.int b1), (.int b2)] (.int 0)) (P1 : Arv Z h0 t1 k1 .byte (6 : Int32) [(.int x0), (.int x1), (.int x2), (.int x3), (.int x4), (.int x5)] (.int 0)) (g_t1 : n0 ≤ t1) (nt : ¬ (t0 = t1)) (m0 : ¬ (b0 < (0 : Int32))) (m1 : b1 < (0 : Int32)) (m2 : ¬ ((b1 &&& (254 : Int32)) = (194 : Int32))) (m3 : ¬ ((b1 >>> ((5 : Int32) &&& 31)) = (-2 : Int32))) (m4 : ¬ ((b1 >>> ((4 : Int32) &&& 31)) = (-2 : Int32))) (m5 : ¬ ((b1 >>> ((3 : Int32) &&& 31)) = (-2 : Int32))) (m6 : ¬ (b2 < (0 : Int32))) :
   Ib l Pba (Jvm.Cond.code Pba jdk_42_method_38_code 11 (some .int) :: ws) (Hb 1 0 0 14) #[(.ref t0), (.int 1), (.int 3), (.ref t1), (.int 1), (.int 1)] Z h0 (fun v h L => v = some (.int 3) ∧ Fr n0 L ∧ Old Z n0 h ∧ Keep h0 h [t1] ∧ Arv Z h t1 k1 .byte (6 : Int32) [(.int x0), (.int x1), (.int (((65533 : Int32) >>> ((0 : Int32) &&& 31)).toInt8.toInt32)), (.int (((65533 : Int32) >>> ((8 : Int32) &&& 31)).toInt8.toInt32)), (.int (((b2.toUInt32.toUInt16.toUInt32.toInt32) >>> ((0 : Int32) &&& 31)).toInt8.toInt32)), (.int (((b2.toUInt32.toUInt16.toUInt32.toInt32) >>> ((8 : Int32) &&& 31)).toInt8.toInt32))] (.int 0)) := by
 refine Db (plainFor_of_name Mb) n0 [t1] fun p e s m below meth c s₁ hx hby hml hown hnm hret hlk X00 e00 hZ N00 K00 hNG => ?_
 have k00 : Ab p e below m s₁ #[(.ref t0), (.int 1), (.int 3), (.ref t1), (.int 1), (.int 1)] 11 s₁ 0 #[vr t0, vi 1, vi 3, vr t1, vi 1, vi 1, .unset, .unset, .unset, .unset, .unset] [] := fun t k => castTop (Uba m t0 (1 : Int32) (3 : Int32) t1 (1 : Int32) (1 : Int32) ) k
 obtain ⟨cl10, Ar10, q10, Sz10, Nn10, Hs10, Gf10⟩ := id P0
 have hin11 := inb_of (j := 1) Sz10 ⟨by decide, by decide⟩
 have hat12 : cl10.slots[((1 : Int32)).toNatClampNeg]? = some (.int b1) := Hs10.at hin11 rfl
 obtain ⟨v13, T13, Lc13, X13, hQ13, st13⟩ := Ub X00 hx hZ hown (B0a l Z a0 hw [] t1 k1 (65533 : Int32) x0 x1 x2 x3 x4 x5 _ _ _ _ _ _ _ _ _ h0 n0 O0 hE P1 g_t1 ) (Ba hw 140 rfl) (Ba hw 115 rfl) (Ba hw 87 rfl) (Ba hw 116 rfl) e00 (g := (mkF m 615 #[vr t0, vi 2, vi 3, vr t1, vi 2, vi 1, vi b1, .unset, .unset, .unset, .unset] [(.int 65533), (.int 1), (.ref t1)])) rfl (by rw [hml]; rfl) (argsL := [(.ref t1), (.int 1), (.int 65533)]) (rest := []) rfl (lenOf Go rfl) rfl (W := 0) (by show 2 * 0 + _ ≤ _; exact Nat.le_of_eq rfl) (hb hby Iia) (by decide) (by decide) (by decide) (by decide) (by decide)
 obtain ⟨rfl, N13q, O13, Kc13, F13_0⟩ := hQ13
 have N13 := Fr.app N00 N13q
 have K13 := K00.trans Kc13 (allS (Or.inl (List.mem_of_getElem? (i := 0) rfl)) all0)
 have f14 := (P0.keep Kc13 (fun q => nt (List.mem_singleton.mp q)))
 obtain ⟨cl15, Ar15, q15, Sz15, Nn15, Hs15, Gf15⟩ := id f14
 have hin16 := inb_of (j := 2) Sz15 ⟨by decide, by decide⟩
 have hat17 : cl15.slots[((2 : Int32)).toNatClampNeg]? = some (.int b2) := Hs15.at hin16 rfl
 obtain ⟨v18, T18, Lc18, X18, hQ18, st18⟩ := Ub X13 hx hZ hown (V1a l Z a0 hw [] t1 k1 (b2.toUInt32.toUInt16.toUInt32.toInt32) x0 x1 (((65533 : Int32) >>> ((0 : Int32) &&& 31)).toInt8.toInt32) (((65533 : Int32) >>> ((8 : Int32) &&& 31)).toInt8.toInt32) x4 x5 _ _ _ _ _ _ _ _ _ T13.heap n0 O13 hE F13_0 g_t1 ) (Ba hw 140 rfl) (Ba hw 115 rfl) (Ba hw 87 rfl) (Ba hw 116 rfl) rfl (g := (mkF m 27 #[vr t0, vi 3, vi 3, vr t1, vi 3, vi 1, vi b2, .unset, .unset, .unset, .unset] [(.int (b2.toUInt32.toUInt16.toUInt32.toInt32)), (.int 2), (.ref t1)])) rfl (by rw [hml]; rfl) (argsL := [(.ref t1), (.int 2), (.int (b2.toUInt32.toUInt16.toUInt32.toInt32))]) (rest := []) rfl (lenOf Go rfl) rfl (W := 0) (by show 2 * 0 + _ ≤ _; exact Nat.le_of_eq rfl) (hb hby Uoa) (by decide) (by decide) (by decide) (by decide) (by decide)
 obtain ⟨rfl, N18q, O18, Kc18, F18_0⟩ := hQ18
 have N18 := Fr.app N13 N18q
 have K18 := K13.trans Kc18 (allS (Or.inl (List.mem_of_getElem? (i := 0) rfl)) all0)
 have k19 : Ab p e below m s₁ #[(.ref t0), (.int 1), (.int 3), (.ref t1), (.int 1), (.int 1)] 11 T18 623 #[vr t0, vi 3, vi 3, vr t1, vi 3, vi 1, vi b2, .unset, .unset, .unset, .unset] [(.int 3)] := by
  intro t k
  refine k00 t ?_
  refine Pa X00 hx hby Hg rfl ?_
  refine Pa X00 hx hby Ig rfl ?_
  refine XS.icmpNo X00.here hx rfl (hb hby Kg) rfl (tlt (by decide : (1 : Int32) < (3 : Int32))).2.1 ?_
  refine Va X00 hx hby Io rfl rfl ?_
  refine Pa X00 hx hby Ko rfl ?_
  refine XS.iinc X00.here hx rfl (hb hby Lo) rfl (l' := #[vr t0, vi ((1 : Int32) + (1 : Int32)), vi 3, vr t1, vi 1, vi 1, .unset, .unset, .unset, .unset, .unset]) rfl ?_
  rw [Hm]
  refine X00.baloadBytes hx (j := 1) (v := (.int b1)) (by rw [e00]; exact Ar10.1) (State.isArrayOf_alike hZ.alike Ar10.2.1) Ar10.2.2 hin11 hat12 (g := (mkF m 10 #[vr t0, vi 2, vi 3, vr t1, vi 1, vi 1, .unset, .unset, .unset, .unset, .unset] [(.int 1), (.ref t0)])) rfl rfl (hb hby Gn) _ ?_
  refine XS.istore X00.here hx rfl (hb hby Hn) rfl (l' := #[vr t0, vi 2, vi 3, vr t1, vi 1, vi 1, vi b1, .unset, .unset, .unset, .unset]) rfl ?_
  refine Wa X00 hx hby Kn rfl ?_
  refine XS.ifYes X00.here hx rfl (pc0 := 15) (pc' := 33) rfl (hb hby Ln) rfl ((if0 _ _).trans (tlt m1).1) (by decide) (by decide) ?_
  refine Wa X00 hx hby Gt rfl ?_
  refine XS.iconst X00.here hx rfl (hb hby Ht) ?_
  show Za p e below m s₁ 36 #[vr t0, vi 2, vi 3, vr t1, vi 1, vi 1, vi b1, .unset, .unset, .unset, .unset] [(.int 5), (.int b1)] t
  refine XS.ishr X00.here hx rfl (hb hby It) rfl ?_
  refine XS.bipush X00.here hx rfl (hb hby Kt) ?_
  refine XS.icmpYes X00.here hx rfl (pc0 := 39) (pc' := 143) rfl (hb hby Lt) rfl (feq m3).2 (by decide) (by decide) ?_
  refine Wa X00 hx hby Pw rfl ?_
  refine XS.iconst X00.here hx rfl (hb hby Rw) ?_
  refine XS.ishr X00.here hx rfl (hb hby Uw) rfl ?_
  refine XS.bipush X00.here hx rfl (hb hby Vw) ?_
  refine XS.icmpYes X00.here hx rfl (pc0 := 149) (pc' := 349) rfl (hb hby Ww) rfl (feq m4).2 (by decide) (by decide) ?_
  refine Wa X00 hx hby L6 rfl ?_
  refine XS.iconst X00.here hx rfl (hb hby M6) ?_
  refine XS.ishr X00.here hx rfl (hb hby R6) rfl ?_
  refine XS.bipush X00.here hx rfl (hb hby U6) ?_
  show Za p e below m s₁ 355 #[vr t0, vi 2, vi 3, vr t1, vi 1, vi 1, vi b1, .unset, .unset, .unset, .unset] [(.int (-2)), (.int (b1 >>> ((3 : Int32) &&& 31)))] t
  refine XS.icmpYes X00.here hx rfl (pc0 := 355) (pc' := 595) rfl (hb hby V6) rfl (feq m5).2 (by decide) (by decide) ?_
  refine Wa X00 hx hby Zha rfl ?_
  refine XS.ifYes X00.here hx rfl (pc0 := 597) (pc' := 607) rfl (hb hby Aia) rfl ((if0 _ _).trans (feq (by decide : ¬ ((1 : Int32) = (0 : Int32)))).2) (by decide) (by decide) ?_
  refine Va X00 hx hby Bia rfl rfl ?_
  refine Wa X00 hx hby Dia rfl ?_
  refine XS.iinc X00.here hx rfl (hb hby Gia) rfl (l' := #[vr t0, vi 2, vi 3, vr t1, vi ((1 : Int32) + (1 : Int32)), vi 1, vi b1, .unset, .unset, .unset, .unset]) rfl ?_
  rw [Hm]
  refine X00.ldcI hx hown (mvT hZ (Ba hw 193 rfl)) rfl (hb hby Hia) ?_
  refine st13 _ ?_
  refine XS.goto X13.here hx rfl (pc0 := 618) (pc' := 0) rfl (hb hby W6) (by decide) (by decide) ?_
  refine Pa X13 hx hby Hg rfl ?_
  refine Pa X13 hx hby Ig rfl ?_
  refine XS.icmpNo X13.here hx rfl (hb hby Kg) rfl (tlt (by decide : (2 : Int32) < (3 : Int32))).2.1 ?_
  show Za p e below m T13 5 #[vr t0, vi 2, vi 3, vr t1, vi 2, vi 1, vi b1, .unset, .unset, .unset, .unset] [] t
  refine Va X13 hx hby Io rfl rfl ?_
  refine Pa X13 hx hby Ko rfl ?_
  refine XS.iinc X13.here hx rfl (hb hby Lo) rfl (l' := #[vr t0, vi ((2 : Int32) + (1 : Int32)), vi 3, vr t1, vi 2, vi 1, vi b1, .unset, .unset, .unset, .unset]) rfl ?_
  rw [Lv]
  refine X13.baloadBytes hx (j := 2) (v := (.int b2)) (by exact Ar15.1) (State.isArrayOf_alike hZ.alike Ar15.2.1) Ar15.2.2 hin16 hat17 (g := (mkF m 10 #[vr t0, vi 3, vi 3, vr t1, vi 2, vi 1, vi b1, .unset, .unset, .unset, .unset] [(.int 2), (.ref t0)])) rfl rfl (hb hby Gn) _ ?_
  refine XS.istore X13.here hx rfl (hb hby Hn) rfl (l' := #[vr t0, vi 3, vi 3, vr t1, vi 2, vi 1, vi b2, .unset, .unset, .unset, .unset]) rfl ?_
  refine Wa X13 hx hby Kn rfl ?_
  refine XS.ifNo X13.here hx rfl (hb hby Ln) rfl ((if0 _ _).trans (flt m6).1) ?_
  refine Va X13 hx hby Koa rfl rfl ?_
  refine Wa X13 hx hby Loa rfl ?_
  refine XS.iinc X13.here hx rfl (hb hby Moa) rfl (l' := #[vr t0, vi 3, vi 3, vr t1, vi ((2 : Int32) + (1 : Int32)), vi 1, vi b2, .unset, .unset, .unset, .unset]) rfl ?_
  rw [Lv]
  refine Wa X13 hx hby Poa rfl ?_
  refine XS.i2c X13.here hx rfl (hb hby Roa) rfl ?_
  show Za p e below m T13 27 #[vr t0, vi 3, vi 3, vr t1, vi 3, vi 1, vi b2, .unset, .unset, .unset, .unset] [(.int (b2.toUInt32.toUInt16.toUInt32.toInt32)), (.int 2), (.ref t1)] t
  refine st18 _ ?_
  refine XS.goto X18.here hx rfl (pc0 := 30) (pc' := 618) rfl (hb hby Voa) (by decide) (by decide) ?_
  refine XS.goto X18.here hx rfl (pc0 := 618) (pc' := 0) rfl (hb hby W6) (by decide) (by decide) ?_
  refine Pa X18 hx hby Hg rfl ?_
  refine Pa X18 hx hby Ig rfl ?_
  refine XS.icmpYes X18.here hx rfl (pc0 := 2) (pc' := 621) rfl (hb hby Kg) rfl (flt (by decide : ¬ ((3 : Int32) < (3 : Int32)))).2.1 (by decide) (by decide) ?_
  refine Wa X18 hx hby Wp rfl ?_
  exact k
 exact Zb (.int 3) hNG hlk hret X18 rfl (by decide) (by decide) (fun fs hr => k19 _ (retOut X18 hx (t := .int) hret rfl (Or.inl ⟨rfl, Or.inl rfl, _, rfl⟩) (hb hby Yp) hr)) ⟨rfl, N18, O18, K18, F18_0⟩
theorem Z8 (m : MethodId) (x0 : Addr) (x1 : Addr) (x2 : Addr) (x3 : Int32) (x4 : Int32)  : entryFrame m #[(.ref x0), (.ref x1), (.ref x2), (.int x3), (.int x4)] 11 = mkF m 0 #[.val (.ref x0), .val (.ref x1), .val (.ref x2), .val (.int x3), .val (.int x4), .unset, .unset, .unset, .unset, .unset, .unset] [] := by first | (simp [entryFrame, mkF, argsToLocals, Value.category]; done) | rfl
abbrev La : ByteArray := jdk_42_method_11_code
theorem Kk : decode La 0 = .ok (.aload_n 0, 1) := by decide +kernel
theorem Lk : decode La 1 = .ok (.invokespecial 1, 3) := by decide +kernel
theorem Mk : decode La 4 = .ok (.iload 4, 2) := by decide +kernel
theorem Pk : decode La 6 = .ok (.ifCond .ne 24, 3) := by decide +kernel
theorem Ui : decode La 30 = .ok (.aload_n 1, 1) := by decide +kernel
theorem Vi : decode La 31 = .ok (.getstatic 86, 3) := by decide +kernel
theorem Wi : decode La 34 = .ok (.if_acmp .ne 312, 3) := by decide +kernel
theorem Yi : decode La 37 = .ok (.getstatic 38, 3) := by decide +kernel
theorem Zi : decode La 40 = .ok (.ifCond .eq 252, 3) := by decide +kernel
theorem Aj : decode La 43 = .ok (.aload_n 2, 1) := by decide +kernel
theorem Bj : decode La 44 = .ok (.iload_n 3, 1) := by decide +kernel
theorem Dj : decode La 45 = .ok (.iload 4, 2) := by decide +kernel
theorem Gj : decode La 47 = .ok (.invokestatic 92, 3) := by decide +kernel
theorem Bba : parseMethodDescriptor "([BII)I" = some ⟨[(.array .byte), .int, .int], some .int⟩ := by decide +kernel
theorem Hj : decode La 50 = .ok (.istore 5, 2) := by decide +kernel
theorem Ij : decode La 52 = .ok (.iload 5, 2) := by decide +kernel
theorem Kj : decode La 54 = .ok (.iload 4, 2) := by decide +kernel
theorem Lj : decode La 56 = .ok (.if_icmp .ne 22, 3) := by decide +kernel
theorem Woa : decode La 59 = .ok (.aload_n 0, 1) := by decide +kernel
theorem Yoa : decode La 60 = .ok (.aload_n 2, 1) := by decide +kernel
theorem Zoa : decode La 61 = .ok (.iload_n 3, 1) := by decide +kernel
theorem Apa : decode La 62 = .ok (.iload_n 3, 1) := by decide +kernel
theorem Bpa : decode La 63 = .ok (.iload 4, 2) := by decide +kernel
theorem Dpa : decode La 65 = .ok (.iadd, 1) := by decide +kernel
theorem Gpa : decode La 66 = .ok (.invokestatic 54, 3) := by decide +kernel
theorem A9 : parseMethodDescriptor "([BII)[B" = some ⟨[(.array .byte), .int, .int], some (.array .byte)⟩ := by decide +kernel
theorem Hpa : decode La 69 = .ok (.putfield 9, 3) := by decide +kernel
theorem Ipa : decode La 72 = .ok (.aload_n 0, 1) := by decide +kernel
theorem Kpa : decode La 73 = .ok (.iconst 0, 1) := by decide +kernel
theorem Lpa : decode La 74 = .ok (.putfield 15, 3) := by decide +kernel
theorem Mpa : decode La 77 = .ok (.return_, 1) := by decide +kernel
abbrev Wr : MethodName := ⟨"java/lang/String", "<init>", "(Ljava/nio/charset/Charset;[BII)V"⟩
def Z4a (Z : State) (a1 t0 : Addr) (k0 : ClassId) (b0 b1 : Int32) (Ra Ya Ia Ua Ka Ga Ma : Addr) (Da : Int32) (Aa : Value) (h0 : Heap) (n0 : Nat) (v : Option Value) (h : Heap) (L : List Loc) : Prop := ∃ (b : Addr) (k : ClassId), v = none ∧ Fr n0 L ∧ Old Z n0 h ∧ Keep h0 h [a1] ∧ n0 ≤ b ∧ h0.size ≤ b ∧ Exa Z h a1 "java/lang/String" ∧ Fld Z h a1 "java/lang/String" "coder" "B" (.int 0) ∧ Fld Z h a1 "java/lang/String" "value" "[B" (.ref b) ∧ Arv Z h b k .byte (2 : Int32) [(.int b0), (.int b1)] (.int 0)
theorem Bab (l : Launch) (Z : State) (a0 : Array Value) (hw : ∀ d ∈ tables_1, d.before a0 Z = true) (ws : List Jvm.Cond) (a1 t0 : Addr) (k0 : ClassId) (b0 b1 : Int32) (Ra Ya Ia Ua Ka Ga Ma : Addr) (Da : Int32) (Aa : Value) (h0 : Heap) (n0 : Nat) (O0 : Old Z n0 h0) (hE : EV Z Ra Ya Ia Ua Ka Ga Ma Da Aa) (P0 : Exa Z h0 a1 "java/lang/String") (P1 : Fld Z h0 a1 "java/lang/String" "value" "[B" .null) (P2 : Fld Z h0 a1 "java/lang/String" "coder" "B" (.int 0)) (P3 : Arv Z h0 t0 k0 .byte (2 : Int32) [(.int b0), (.int b1)] (.int 0)) (P4 : Exa Z h0 t0 "[B") (g_a1 : n0 ≤ a1) (na : ¬ (t0 = a1)) (m0 : ¬ (b0 < (0 : Int32))) (m1 : ¬ (b1 < (0 : Int32))) :
   MetFree l Wr (head1 (Jvm.Cond.codeWith Wr jdk_42_method_11_code 11 none [((800 : Nat), (813 : Nat), (816 : Nat), (202 : Nat))] :: ws) (Hb 2 1 2 29)) (fun a U => a = #[(.ref a1), (.ref Ga), (.ref t0), (.int 0), (.int 2)] ∧ Z.Warmed39 U.vm ∧ U.heap = h0) (fun _ _ _ _ _ => True) (fun _ U o U' => ∃ v L, o = .returned v ∧ Z4a Z a1 t0 k0 b0 b1 Ra Ya Ia Ua Ka Ga Ma Da Aa h0 n0 v U'.heap L ∧ FrameEnd U o U' L (Hb 2 1 2 29).cells (Hb 2 1 2 29).slots) := by
 refine MetFree.of_bodySF (plainFor_of_name Mb) hisWith ?_
 intro p e s m args below meth c s₁ Bd hml0 hP hK
 obtain ⟨rfl, hZ, hh⟩ := hP
 have hx := Bd.exec
 have hby := Bd.bytes
 have hml : c.maxLocals = 11 := hml0
 have hown : s.vm.findClass "java/lang/String" = some m.cls := findClass_of_methodNamed Bd.named
 have hnm := (name_of_methodNamed Bd.named Bd.method).1
 have X00 : Stand p l e (Hb 2 1 2 29) s m #[(.ref a1), (.ref Ga), (.ref t0), (.int 0), (.int 2)] below meth c s₁ [] 0 0 := Stand.of_body Bd
 have e00 : s₁.heap = h0 := by rw [← hh, Bd.state]; rfl
 have N00 := Fr.nil n0
 refine Classical.byContradiction fun hNG => ?_
 have K00 := Keep.refl h0 [a1]
 have k00 : Ab p e below m s₁ #[(.ref a1), (.ref Ga), (.ref t0), (.int 0), (.int 2)] 11 s₁ 0 #[vr a1, vr Ga, vr t0, vi 0, vi 2, .unset, .unset, .unset, .unset, .unset, .unset] [] := fun t k => castTop (Z8 m a1 Ga t0 (0 : Int32) (2 : Int32) ) k
 obtain ⟨_, _, _, _, _, _, _, _, _, _, _, _, Po, _, Vc, Mc, _, _, _, _, _, eq_UTF_8_INSTANCE⟩ := id hE
 obtain ⟨T10, X10, e10, st10⟩ := initO X00 hx hZ hown (Ba hw 64 rfl) (Ba hw 26 rfl) (Ba hw 27 rfl) e00 (g := (mkF m 1 #[vr a1, vr Ga, vr t0, vi 0, vi 2, .unset, .unset, .unset, .unset, .unset, .unset] [(.ref a1)])) rfl (by rw [hml]; rfl) rfl (hb hby Lk) (by decide) (W := 0) (by show 2 * 0 + _ ≤ _; exact Nat.le_of_eq rfl) (by decide)
 obtain ⟨T11, X11, e11, st11⟩ := getS2 X10 hx hZ hown (host := "") (Or.inl (Ba hw 65 rfl)) Via.refl e10 (Po.ext O0.2) (g := (mkF m 31 #[vr a1, vr Ga, vr t0, vi 0, vi 2, .unset, .unset, .unset, .unset, .unset, .unset] [(.ref Ga)])) rfl (hb hby Vi)
 obtain ⟨T12, X12, e12, st12⟩ := getS2 X11 hx hZ hown (host := "") (Or.inl (Ba hw 67 rfl)) Via.refl e11 (Vc.ext O0.2) (g := (mkF m 37 #[vr a1, vr Ga, vr t0, vi 0, vi 2, .unset, .unset, .unset, .unset, .unset, .unset] [])) rfl (hb hby Yi)
 obtain ⟨v13, T13, Lc13, X13, hQ13, st13⟩ := Ub X12 hx hZ hown (Z6a l Z a0 hw [] t0 k0 b0 b1 _ _ _ _ _ _ _ _ _ h0 n0 O0 hE P3 m0 m1) (Ba hw 68 rfl) (Ba hw 69 rfl) (Ba hw 70 rfl) (Ba hw 71 rfl) e12 (g := (mkF m 47 #[vr a1, vr Ga, vr t0, vi 0, vi 2, .unset, .unset, .unset, .unset, .unset, .unset] [(.int 2), (.int 0), (.ref t0)])) rfl (by rw [hml]; rfl) (argsL := [(.ref t0), (.int 0), (.int 2)]) (rest := []) rfl (lenOf Bba rfl) rfl (W := 0) (by show 2 * 0 + _ ≤ _; exact Nat.le_of_eq rfl) (hb hby Gj) (by decide) (by decide) (by decide) (by decide) (by decide)
 obtain ⟨rfl, N13q, hp13⟩ := hQ13
 have N13 := Fr.app N00 N13q
 obtain ⟨v14, T14, Lc14, X14, hQ14, st14⟩ := Ub X13 hx hZ hown (R8a l Z a0 hw [] t0 k0 b0 b1 _ _ _ _ _ _ _ _ _ h0 n0 O0 hE P3 P4 ) (Ba hw 72 rfl) (Ba hw 73 rfl) (Ba hw 74 rfl) (Ba hw 75 rfl) hp13 (g := (mkF m 66 #[vr a1, vr Ga, vr t0, vi 0, vi 2, vi 2, .unset, .unset, .unset, .unset, .unset] [(.int 2), (.int 0), (.ref t0), (.ref a1)])) rfl (by rw [hml]; rfl) (argsL := [(.ref t0), (.int 0), (.int 2)]) (rest := [(.ref a1)]) rfl (lenOf A9 rfl) rfl (W := 1) (by show 2 * 0 + _ ≤ _; exact Nat.le_of_eq rfl) (hb hby Gpa) (by decide) (by decide) (by decide) (by decide) (by decide)
 obtain ⟨b14, k14, rfl, N14q, O14, Kc14, g_b14, gs_b14, F14_0⟩ := hQ14
 have N14 := Fr.app N13 N14q
 have K14 := K00.trans Kc14 (fun x hx => nomatch hx)
 have s_b14 := Nat.le_trans K00.1 gs_b14
 have lt_b14 := F14_0.lt
 have f15 := (P0.keep Kc14)
 have f16 := (P1.keep Kc14 List.not_mem_nil)
 obtain ⟨T17, h17, X17, e17, W17, st17⟩ := putF X14 hx hZ hown (host := "") (Or.inl (Ba hw 156 rfl)) Via.refl rfl f16 f15 (Or.inr ⟨(Ba hw 31 rfl), rfl, hnm⟩) (Ba hw 30 rfl) (ty := (.array .byte)) (by decide) rfl rfl (g := (mkF m 69 #[vr a1, vr Ga, vr t0, vi 0, vi 2, vi 2, .unset, .unset, .unset, .unset, .unset] [(.ref b14), (.ref a1)])) rfl rfl (hb hby Hpa)
 have F17_value := f16.same W17
 have N17 := Fr.snoc X17 N14 g_a1
 have O17 := O14.wr W17 g_a1
 have K17 := K14.wr W17 (Or.inl (List.mem_of_getElem? (i := 0) rfl))
 have f18 := (f15.wr W17)
 have f19 := ((P2.keep Kc14 List.not_mem_nil).other W17 (Or.inr (slot_ne (Or.inr (Ba hw 32 rfl)) (Or.inr (Ba hw 31 rfl)) (by decide) (t := .byte) (t' := (.array .byte)) (by decide) (by decide))))
 obtain ⟨T20, h20, X20, e20, W20, st20⟩ := putFN X17 hx hZ hown (Ba hw 157 rfl) Via.refl e17 f19 f18 (Or.inr ⟨(Ba hw 32 rfl), rfl, hnm⟩) (Ba hw 30 rfl) (ty := .byte) (v' := .int (0 : Int32)) (by decide) rfl (by decide) (g := (mkF m 74 #[vr a1, vr Ga, vr t0, vi 0, vi 2, vi 2, .unset, .unset, .unset, .unset, .unset] [(.int 0), (.ref a1)])) rfl rfl (hb hby Lpa)
 have F20_coder := f19.same W20
 have N20 := Fr.snoc X20 N17 g_a1
 have O20 := O17.wr W20 g_a1
 have K20 := K17.wr W20 (Or.inl (List.mem_of_getElem? (i := 0) rfl))
 have k21 : Ab p e below m s₁ #[(.ref a1), (.ref Ga), (.ref t0), (.int 0), (.int 2)] 11 T20 77 #[vr a1, vr Ga, vr t0, vi 0, vi 2, vi 2, .unset, .unset, .unset, .unset, .unset] [] := by
  intro t k
  refine k00 t ?_
  refine Va X00 hx hby Kk rfl rfl ?_
  refine st10 _ ?_
  refine Wa X10 hx hby Mk rfl ?_
  refine XS.ifYes X10.here hx rfl (pc0 := 6) (pc' := 30) rfl (hb hby Pk) rfl ((if0 _ _).trans (feq (by decide : ¬ ((2 : Int32) = (0 : Int32)))).2) (by decide) (by decide) ?_
  refine Va X10 hx hby Ui rfl rfl ?_
  refine st11 _ ?_
  refine Jvm.RoadKit.acmp (g := (mkF m 34 #[vr a1, vr Ga, vr t0, vi 0, vi 2, .unset, .unset, .unset, .unset, .unset, .unset] [(.ref Ma), (.ref Ga)])) X11 hx rfl rfl rfl (pc0 := 34) (pc' := 37) (same := true) rfl (hb hby Wi) rfl (decide_eq_true (congrArg Value.ref eq_UTF_8_INSTANCE)) (by decide) (by decide) ?_
  refine st12 _ ?_
  refine XS.ifNo X12.here hx rfl (hb hby Zi) rfl ((if0 _ _).trans (feq Mc).1) ?_
  refine Va X12 hx hby Aj rfl rfl ?_
  refine Pa X12 hx hby Bj rfl ?_
  refine Wa X12 hx hby Dj rfl ?_
  show Za p e below m T12 47 #[vr a1, vr Ga, vr t0, vi 0, vi 2, .unset, .unset, .unset, .unset, .unset, .unset] [(.int 2), (.int 0), (.ref t0)] t
  refine st13 _ ?_
  refine XS.istore X13.here hx rfl (hb hby Hj) rfl (l' := #[vr a1, vr Ga, vr t0, vi 0, vi 2, vi 2, .unset, .unset, .unset, .unset, .unset]) rfl ?_
  refine Wa X13 hx hby Ij rfl ?_
  refine Wa X13 hx hby Kj rfl ?_
  refine XS.icmpNo X13.here hx rfl (hb hby Lj) rfl (teq (by decide : (2 : Int32) = (2 : Int32))).2 ?_
  refine Va X13 hx hby Woa rfl rfl ?_
  refine Va X13 hx hby Yoa rfl rfl ?_
  refine Pa X13 hx hby Zoa rfl ?_
  refine Pa X13 hx hby Apa rfl ?_
  refine Wa X13 hx hby Bpa rfl ?_
  refine XS.iadd X13.here hx rfl (hb hby Dpa) rfl ?_
  show Za p e below m T13 66 #[vr a1, vr Ga, vr t0, vi 0, vi 2, vi 2, .unset, .unset, .unset, .unset, .unset] [(.int ((0 : Int32) + (2 : Int32))), (.int 0), (.ref t0), (.ref a1)] t
  rw [R2a]
  refine st14 _ ?_
  refine st17 _ ?_
  refine Va X17 hx hby Ipa rfl rfl ?_
  refine XS.iconst X17.here hx rfl (hb hby Kpa) ?_
  refine st20 _ ?_
  exact k
 have f22 := (f18.wr W20)
 have f23 := (F17_value.other W20 (Or.inr (slot_ne (Or.inr (Ba hw 31 rfl)) (Or.inr (Ba hw 32 rfl)) (by decide) (t := (.array .byte)) (t' := .byte) (by decide) (by decide))))
 have ne24 : ¬ (b14 = a1) := (Ne.symm (Nat.ne_of_lt (Nat.lt_of_lt_of_le P0.lt gs_b14)))
 have f25 := ((F14_0.other W17 ne24).other W20 ne24)
 obtain ⟨fs, hr, hrun, hended, hW, hsame⟩ := X20.leave (v := none) (fun _ => rfl)
 refine hNG ⟨_, _, k21 _ ?_, hrun, hended, _, _, rfl, ?_, ⟨_, rfl⟩, hW, hsame.mono (by decide) (by decide)⟩
 · exact X20.returnOut hx Bd.returns (hb hby Mpa) hr
 · show Z4a Z a1 t0 k0 b0 b1 Ra Ya Ia Ua Ka Ga Ma Da Aa h0 n0 _ T20.heap _
   rw [e20]
   exact ⟨b14, k14, rfl, N20, O20, K20, g_b14, s_b14, f22, F20_coder, f23, f25⟩
theorem Hba (m : MethodId) (x0 : Addr) (x1 : Addr) (x2 : Addr)  : entryFrame m #[(.ref x0), (.ref x1), (.ref x2)] 3 = mkF m 0 #[.val (.ref x0), .val (.ref x1), .val (.ref x2)] [] := by first | (simp [entryFrame, mkF, argsToLocals, Value.category]; done) | rfl
abbrev Ie : ByteArray := jdk_42_method_49_code
theorem Rk : decode Ie 0 = .ok (.aload_n 0, 1) := by decide +kernel
theorem Uk : decode Ie 1 = .ok (.aload_n 2, 1) := by decide +kernel
theorem Vk : decode Ie 2 = .ok (.invokestatic 78, 3) := by decide +kernel
abbrev Mt : ByteArray := jdk_31_method_10_code
theorem Vua : decode Mt 0 = .ok (.aload_n 0, 1) := by decide +kernel
theorem Wua : decode Mt 1 = .ok (.ifnonnull 11, 3) := by decide +kernel
theorem Ppa : decode Mt 12 = .ok (.aload_n 0, 1) := by decide +kernel
theorem Rpa : decode Mt 13 = .ok (.areturn, 1) := by decide +kernel
theorem Vba : plainName "java/util/Objects" = true := by first | (simp [plainName, overriddenIn]; done) | decide +kernel
abbrev P3a : MethodName := ⟨"java/util/Objects", "requireNonNull", "(Ljava/lang/Object;)Ljava/lang/Object;"⟩
theorem Ywa (l : Launch) (Z : State) (a0 : Array Value) (hw : Pb a0 Z) (ws : List Jvm.Cond) (Ra Ya Ia Ua Ka Ga Ma : Addr) (Da : Int32) (Aa : Value) (h0 : Heap) (n0 : Nat) (O0 : Old Z n0 h0) (hE : EV Z Ra Ya Ia Ua Ka Ga Ma Da Aa) :
   Ib l P3a (Jvm.Cond.code P3a jdk_31_method_10_code 1 (some (.object "java/lang/Object")) :: ws) (Hb 0 0 0 0) #[(.ref Ga)] Z h0 (fun v h L => v = some (.ref Ga) ∧ Fr n0 L ∧ h = h0) := by
 refine Db (plainFor_of_name Vba) n0 [] fun p e s m below meth c s₁ hx hby hml hown hnm hret hlk X00 e00 hZ N00 K00 hNG => ?_
 have k00 : Ab p e below m s₁ #[(.ref Ga)] 1 s₁ 0 #[vr Ga] [] := fun t k => castTop (Aba m Ga ) k
 have k10 : Ab p e below m s₁ #[(.ref Ga)] 1 s₁ 13 #[vr Ga] [(.ref Ga)] := by
  intro t k
  refine k00 t ?_
  refine Va X00 hx hby Vua rfl rfl ?_
  refine XS.ifnonnullYes X00.here hx rfl (pc0 := 1) (pc' := 12) rfl (hb hby Wua) rfl (by decide) (by decide) ?_
  refine Va X00 hx hby Ppa rfl rfl ?_
  exact k
 exact Zb (.ref Ga) hNG hlk hret X00 e00 (by decide) (by decide) (fun fs hr => k10 _ (retOut X00 hx (t := (.object "java/lang/Object")) hret rfl (Or.inr (Or.inr (Or.inr (Or.inr ⟨rfl, rfl, rfl⟩)))) (hb hby Rpa) hr)) ⟨rfl, N00, rfl⟩
theorem He : parseMethodDescriptor "(Ljava/lang/Object;)Ljava/lang/Object;" = some ⟨[(.object "java/lang/Object")], some (.object "java/lang/Object")⟩ := by decide +kernel
theorem Wk : decode Ie 5 = .ok (.checkcast 84, 3) := by decide +kernel
theorem Yk : decode Ie 8 = .ok (.aload_n 1, 1) := by decide +kernel
theorem Zk : decode Ie 9 = .ok (.iconst 0, 1) := by decide +kernel
theorem Mj : decode Ie 10 = .ok (.aload_n 1, 1) := by decide +kernel
theorem Pj : decode Ie 11 = .ok (.arraylength, 1) := by decide +kernel
theorem Rj : decode Ie 12 = .ok (.invokespecial 75, 3) := by decide +kernel
theorem Ag : parseMethodDescriptor "(Ljava/nio/charset/Charset;[BII)V" = some ⟨[(.object "java/nio/charset/Charset"), (.array .byte), .int, .int], none⟩ := by decide +kernel
theorem Uj : decode Ie 15 = .ok (.return_, 1) := by decide +kernel
abbrev G6 : MethodName := ⟨"java/lang/String", "<init>", "([BLjava/nio/charset/Charset;)V"⟩
theorem Dab (l : Launch) (Z : State) (a0 : Array Value) (hw : Pb a0 Z) (ws : List Jvm.Cond) (a1 t0 : Addr) (k0 : ClassId) (b0 b1 : Int32) (Ra Ya Ia Ua Ka Ga Ma : Addr) (Da : Int32) (Aa : Value) (h0 : Heap) (n0 : Nat) (O0 : Old Z n0 h0) (hE : EV Z Ra Ya Ia Ua Ka Ga Ma Da Aa) (P0 : Exa Z h0 a1 "java/lang/String") (P1 : Fld Z h0 a1 "java/lang/String" "value" "[B" .null) (P2 : Fld Z h0 a1 "java/lang/String" "coder" "B" (.int 0)) (P3 : Arv Z h0 t0 k0 .byte (2 : Int32) [(.int b0), (.int b1)] (.int 0)) (P4 : Exa Z h0 t0 "[B") (g_a1 : n0 ≤ a1) (na : ¬ (t0 = a1)) (m0 : ¬ (b0 < (0 : Int32))) (m1 : ¬ (b1 < (0 : Int32))) :
   Ib l G6 (Jvm.Cond.code G6 jdk_42_method_49_code 3 none :: ws) (Hb 3 1 2 51) #[(.ref a1), (.ref t0), (.ref Ga)] Z h0 (fun v h L => ∃ (b : Addr) (k : ClassId), v = none ∧ Fr n0 L ∧ Old Z n0 h ∧ Keep h0 h [a1] ∧ n0 ≤ b ∧ h0.size ≤ b ∧ Exa Z h a1 "java/lang/String" ∧ Fld Z h a1 "java/lang/String" "coder" "B" (.int 0) ∧ Fld Z h a1 "java/lang/String" "value" "[B" (.ref b) ∧ Arv Z h b k .byte (2 : Int32) [(.int b0), (.int b1)] (.int 0)) := by
 refine Db (plainFor_of_name Mb) n0 [a1] fun p e s m below meth c s₁ hx hby hml hown hnm hret hlk X00 e00 hZ N00 K00 hNG => ?_
 have k00 : Ab p e below m s₁ #[(.ref a1), (.ref t0), (.ref Ga)] 3 s₁ 0 #[vr a1, vr t0, vr Ga] [] := fun t k => castTop (Hba m a1 t0 Ga ) k
 obtain ⟨_, _, _, _, _, _, _, _, _, _, _, G5, _⟩ := id hE
 obtain ⟨v10, T10, Lc10, X10, hQ10, st10⟩ := Ub X00 hx hZ hown (Ywa l Z a0 hw []  _ _ _ _ _ _ _ _ _ h0 n0 O0 hE ) (Ba hw 55 rfl) (Ba hw 56 rfl) (Ba hw 37 rfl) (Ba hw 57 rfl) e00 (g := (mkF m 2 #[vr a1, vr t0, vr Ga] [(.ref Ga), (.ref a1)])) rfl (by rw [hml]; rfl) (argsL := [(.ref Ga)]) (rest := [(.ref a1)]) rfl (lenOf He rfl) rfl (W := 1) (by show 2 * 0 + _ ≤ _; exact Nat.le_of_eq rfl) (hb hby Vk) (by decide) (by decide) (by decide) (by decide) (by decide)
 obtain ⟨rfl, N10q, hp10⟩ := hQ10
 have N10 := Fr.app N00 N10q
 obtain ⟨T11, X11, e11, st11⟩ := castY X10 hx hZ hown (Ba hw 58 rfl) hp10 (Ins.of_exa (G5.ext O0.2) (Ba hw 59 rfl)) (g := (mkF m 5 #[vr a1, vr t0, vr Ga] [(.ref Ga), (.ref a1)])) rfl rfl (hb hby Wk)
 obtain ⟨cl12, Ar12, q12, Sz12, Nn12, Hs12, Gf12⟩ := id P3
 obtain ⟨_, _, ⟨T13, L13, k13, n13⟩, -, X13, ⟨Lc13, hQ13, l13, y13, z13⟩, st13⟩ := X11.specialBackH hx (y := Wr) rfl hown (mvT hZ (Ba hw 60 rfl)) (mvT hZ (Ba hw 61 rfl)) (mvT hZ (Ba hw 63 rfl)) (by decide) (backOfWith (W := 0) (Bab l Z a0 hw [] a1 t0 k0 b0 b1 _ _ _ _ _ _ _ _ _ h0 n0 O0 hE P0 P1 P2 P3 P4 g_a1 na m0 m1 ) hZ (Ba hw 63 rfl) (Ba hw 29 rfl) (by decide) (by decide)) (g := (mkF m 12 #[vr a1, vr t0, vr Ga] [(.int 2), (.int 0), (.ref t0), (.ref Ga), (.ref a1)])) rfl (by rw [hml]; rfl) (Steps.refl _) (a := a1) (argsL := [(.ref Ga), (.ref t0), (.int 0), (.int 2)]) (rest := []) (lenOf Ag rfl) rfl (by show 2 * 0 + _ ≤ _; exact Nat.le_of_eq rfl) (hb hby Rj) (fun _ _ => ⟨rfl, e11, (by decide : 0 + 1 ≤ _), (by decide : 0 + 2 ≤ _)⟩)
 dsimp only [Pt.U, Pt.locs, Pt.cells, Pt.slots] at X13 l13 y13 z13 st13 hQ13
 subst l13 y13 z13
 obtain ⟨b13, k13, rfl, N13q, O13, Kc13, g_b13, gs_b13, F13_0, F13_1, F13_2, F13_3⟩ := hQ13
 have N13 := Fr.app N10 N13q
 have K13 := K00.trans Kc13 (allS (Or.inl (List.mem_of_getElem? (i := 0) rfl)) all0)
 have s_b13 := Nat.le_trans K00.1 gs_b13
 have lt_b13 := F13_3.lt
 have k14 : Ab p e below m s₁ #[(.ref a1), (.ref t0), (.ref Ga)] 3 T13 15 #[vr a1, vr t0, vr Ga] [] := by
  intro t k
  refine k00 t ?_
  refine Va X00 hx hby Rk rfl rfl ?_
  refine Va X00 hx hby Uk rfl rfl ?_
  refine st10 _ ?_
  refine st11 _ ?_
  refine Va X11 hx hby Yk rfl rfl ?_
  refine XS.iconst X11.here hx rfl (hb hby Zk) ?_
  refine Va X11 hx hby Mj rfl rfl ?_
  refine X11.arraylength hx (by rw [e11]; exact Ar12.1) (State.isArrayOf_alike hZ.alike Ar12.2.1) (g := (mkF m 11 #[vr a1, vr t0, vr Ga] [(.ref t0), (.int 0), (.ref t0), (.ref Ga), (.ref a1)])) rfl rfl (hb hby Pj) _ ?_
  rw [len_of Sz12 Nn12]
  refine st13.trans ?_
  exact k
 exact Yg hNG hlk X13 rfl (by decide) (by decide) (fun fs hr => k14 _ (X13.returnOut hx hret (hb hby Uj) hr)) ⟨b13, k13, rfl, N13, O13, K13, g_b13, s_b13, F13_0, F13_1, F13_2, F13_3⟩
abbrev Ah : ByteArray := prog_16_method_10_code
theorem Vj : decode Ah 0 = .ok (.new 43, 3) := by decide +kernel
theorem Wj : decode Ah 3 = .ok (.dup, 1) := by decide +kernel
theorem Yj : decode Ah 4 = .ok (.aload_n 0, 1) := by decide +kernel
theorem Zj : decode Ah 5 = .ok (.getfield 22, 3) := by decide +kernel
theorem Ak : decode Ah 8 = .ok (.getstatic 36, 3) := by decide +kernel
theorem Yh : decode Ah 11 = .ok (.invokespecial 179, 3) := by decide +kernel
theorem Lg : parseMethodDescriptor "([BLjava/nio/charset/Charset;)V" = some ⟨[(.array .byte), (.object "java/nio/charset/Charset")], none⟩ := by decide +kernel
theorem Zh : decode Ah 14 = .ok (.areturn, 1) := by decide +kernel
theorem Gd : plainName "com/example/attenuation/attenuation/core/Outcome" = true := by first | (simp [plainName, overriddenIn]; done) | decide +kernel
abbrev H6 : MethodName := ⟨"com/example/attenuation/attenuation/core/Outcome", "text", "()Ljava/lang/String;"⟩
theorem Gab (l : Launch) (Z : State) (a0 : Array Value) (hw : Pb a0 Z) (ws : List Jvm.Cond) (u0 t0 : Addr) (k0 : ClassId) (b0 b1 : Int32) (Ra Ya Ia Ua Ka Ga Ma : Addr) (Da : Int32) (Aa : Value) (h0 : Heap) (n0 : Nat) (O0 : Old Z n0 h0) (hE : EV Z Ra Ya Ia Ua Ka Ga Ma Da Aa) (P0 : Fld Z h0 u0 "com/example/attenuation/attenuation/core/Outcome" "body" "[B" (.ref t0)) (P1 : Exa Z h0 u0 "com/example/attenuation/attenuation/core/Outcome") (P2 : Arv Z h0 t0 k0 .byte (2 : Int32) [(.int b0), (.int b1)] (.int 0)) (P3 : Exa Z h0 t0 "[B") (m0 : ¬ (b0 < (0 : Int32))) (m1 : ¬ (b1 < (0 : Int32))) :
   Ib l H6 (Jvm.Cond.code H6 prog_16_method_10_code 1 (some (.object "java/lang/String")) :: ws) (Hb 4 2 6 66) #[(.ref u0)] Z h0 (fun v h L => ∃ (s : Addr) (b : Addr) (k : ClassId), v = some (.ref s) ∧ Fr n0 L ∧ Old Z n0 h ∧ Keep h0 h [] ∧ n0 ≤ s ∧ h0.size ≤ s ∧ n0 ≤ b ∧ h0.size ≤ b ∧ ¬ (s = b) ∧ Exa Z h s "java/lang/String" ∧ Fld Z h s "java/lang/String" "coder" "B" (.int 0) ∧ Fld Z h s "java/lang/String" "value" "[B" (.ref b) ∧ Arv Z h b k .byte (2 : Int32) [(.int b0), (.int b1)] (.int 0)) := by
 refine Db (plainFor_of_name Gd) n0 [] fun p e s m below meth c s₁ hx hby hml hown hnm hret hlk X00 e00 hZ N00 K00 hNG => ?_
 have k00 : Ab p e below m s₁ #[(.ref u0)] 1 s₁ 0 #[vr u0] [] := fun t k => castTop (Aba m u0 ) k
 obtain ⟨_, _, _, _, _, _, _, _, _, _, H5, _⟩ := id hE
 obtain ⟨T10, h10, X10, e10, E10, A10, D10, -, st10⟩ := newO X00 hx hZ hown (Ba hw 49 rfl) (Ba hw 30 rfl) (Ba hw 29 rfl) e00 (g := (mkF m 0 #[vr u0] [])) rfl (hb hby Vj) (by decide) (by decide)
 obtain ⟨b10, g10⟩ : ∃ z, z = h0.size := ⟨_, rfl⟩
 rw [← g10] at A10 D10 st10
 have O10 := O0.ext E10
 have g_b10 : n0 ≤ b10 := Nat.le_trans (Nat.le_of_eq O0.1.symm) (Nat.le_trans O0.2.1 (Nat.le_of_eq g10.symm))
 have s_b10 : h0.size ≤ b10 := Nat.le_trans K00.1 (Nat.le_of_eq g10.symm)
 have K10 := K00.ext E10
 have lt_b10 := A10.lt
 have F10_value : Fld Z h10 b10 "java/lang/String" "value" "[B" .null := D10 (Or.inr (Ba hw 31 rfl)) (ty := (.array .byte)) (by decide)
 have F10_coder : Fld Z h10 b10 "java/lang/String" "coder" "B" (.int 0) := D10 (Or.inr (Ba hw 32 rfl)) (ty := .byte) (by decide)
 have f11 := (P0.ext E10)
 obtain ⟨T12, X12, e12, st12⟩ := getF X10 hx hZ hown (host := "") (Or.inl (Ba hw 42 rfl)) Via.refl e10 f11 (g := (mkF m 5 #[vr u0] [(.ref u0), (.ref b10), (.ref b10)])) rfl rfl (hb hby Zj)
 obtain ⟨T13, X13, e13, st13⟩ := getS2 X12 hx hZ hown (host := "") (Or.inl (Ba hw 50 rfl)) Via.refl e12 (H5.ext O10.2) (g := (mkF m 8 #[vr u0] [(.ref t0), (.ref b10), (.ref b10)])) rfl (hb hby Ak)
 have ne14 : ¬ (t0 = b10) := (Nat.ne_of_lt (Nat.lt_of_lt_of_le P2.lt (Nat.le_of_eq g10.symm)))
 have f15 := (P2.ext E10)
 have f16 := (P3.ext E10)
 obtain ⟨v17, T17, Lc17, X17, hQ17, st17⟩ := G1 X13 hx hZ hown (a := b10) (Dab l Z a0 hw [] b10 t0 k0 b0 b1 _ _ _ _ _ _ _ _ _ h10 n0 O10 hE A10 F10_value F10_coder f15 f16 g_b10 ne14 m0 m1 ) (Ba hw 52 rfl) (Ba hw 53 rfl) (Ba hw 29 rfl) (Ba hw 54 rfl) e13 (g := (mkF m 11 #[vr u0] [(.ref Ga), (.ref t0), (.ref b10), (.ref b10)])) rfl (by rw [hml]; rfl) (argsL := [(.ref t0), (.ref Ga)]) (rest := [(.ref b10)]) rfl (lenOf Lg rfl) rfl (W := 1) (by show 2 * 0 + _ ≤ _; exact Nat.le_of_eq rfl) (hb hby Yh) (by decide) (by decide) (by decide) (by decide) rfl (by decide)
 obtain ⟨b17, k17, rfl, N17q, O17, Kc17, g_b17, gs_b17, F17_0, F17_1, F17_2, F17_3⟩ := hQ17
 have N17 := Fr.app N00 N17q
 have K17 := K10.trans Kc17 (allS (Or.inr s_b10) all0)
 have s_b17 := Nat.le_trans K10.1 gs_b17
 have lt_b17 := F17_3.lt
 have k18 : Ab p e below m s₁ #[(.ref u0)] 1 T17 14 #[vr u0] [(.ref b10)] := by
  intro t k
  refine k00 t ?_
  refine st10 _ ?_
  refine XS.dup X10.here hx rfl (hb hby Wj) rfl rfl ?_
  refine Va X10 hx hby Yj rfl rfl ?_
  refine st12 _ ?_
  refine st13 _ ?_
  refine st17 _ ?_
  exact k
 have ne19 : ¬ (b10 = b17) := (Nat.ne_of_lt (Nat.lt_of_lt_of_le lt_b10 gs_b17))
 exact Zb (.ref b10) hNG hlk hret X17 rfl (by decide) (by decide) (fun fs hr => k18 _ (retOut X17 hx (t := (.object "java/lang/String")) hret rfl (Or.inr (Or.inr (Or.inr (Or.inr ⟨rfl, rfl, rfl⟩)))) (hb hby Zh) hr)) ⟨b10, b17, k17, rfl, N17, O17, K17, g_b10, s_b10, g_b17, s_b17, ne19, F17_0, F17_1, F17_2, F17_3⟩
theorem Mn : decode La 78 = .ok (.aload_n 2, 1) := by decide +kernel
theorem Pn : decode La 79 = .ok (.iload_n 3, 1) := by decide +kernel
theorem Rn : decode La 80 = .ok (.iload_n 3, 1) := by decide +kernel
theorem Un : decode La 81 = .ok (.iload 4, 2) := by decide +kernel
theorem Vn : decode La 83 = .ok (.iadd, 1) := by decide +kernel
theorem Wn : decode La 84 = .ok (.invokestatic 54, 3) := by decide +kernel
theorem Yn : decode La 87 = .ok (.astore 6, 2) := by decide +kernel
theorem Zn : decode La 89 = .ok (.iload 5, 2) := by decide +kernel
theorem Ao : decode La 91 = .ok (.istore 7, 2) := by decide +kernel
theorem Bk : decode La 93 = .ok (.iload 7, 2) := by decide +kernel
theorem Dk : decode La 95 = .ok (.iload 4, 2) := by decide +kernel
theorem Gk : decode La 97 = .ok (.if_icmp .ge 93, 3) := by decide +kernel
theorem Gl : decode La 100 = .ok (.aload 6, 2) := by decide +kernel
theorem Hl : decode La 102 = .ok (.iload 7, 2) := by decide +kernel
theorem Il : decode La 104 = .ok (.iinc 7 1, 3) := by decide +kernel
theorem Kl : decode La 107 = .ok (.baload, 1) := by decide +kernel
theorem Ll : decode La 108 = .ok (.istore 8, 2) := by decide +kernel
theorem Ml : decode La 110 = .ok (.iload 8, 2) := by decide +kernel
theorem Pl : decode La 112 = .ok (.ifCond .lt 17, 3) := by decide +kernel
theorem Rl : decode La 129 = .ok (.iload 8, 2) := by decide +kernel
theorem Ul : decode La 131 = .ok (.sipush 254, 3) := by decide +kernel
theorem Vl : decode La 134 = .ok (.iand, 1) := by decide +kernel
theorem Wl : decode La 135 = .ok (.sipush 194, 3) := by decide +kernel
theorem Yl : decode La 138 = .ok (.if_icmp .ne 46, 3) := by decide +kernel
theorem Kia : decode La 141 = .ok (.iload 7, 2) := by decide +kernel
theorem Lia : decode La 143 = .ok (.iload 4, 2) := by decide +kernel
theorem Mia : decode La 145 = .ok (.if_icmp .ge 39, 3) := by decide +kernel
theorem Pia : decode La 148 = .ok (.aload 6, 2) := by decide +kernel
theorem Ria : decode La 150 = .ok (.iload 7, 2) := by decide +kernel
theorem Uia : decode La 152 = .ok (.baload, 1) := by decide +kernel
theorem Wia : decode La 153 = .ok (.istore 9, 2) := by decide +kernel
theorem Yia : decode La 155 = .ok (.iload 9, 2) := by decide +kernel
theorem Zia : decode La 157 = .ok (.bipush (-64), 2) := by decide +kernel
theorem Aja : decode La 159 = .ok (.if_icmp .ge 25, 3) := by decide +kernel
theorem Bja : decode La 162 = .ok (.aload 6, 2) := by decide +kernel
theorem Dja : decode La 164 = .ok (.iload 5, 2) := by decide +kernel
theorem Gja : decode La 166 = .ok (.iinc 5 1, 3) := by decide +kernel
theorem Hja : decode La 169 = .ok (.iload 8, 2) := by decide +kernel
theorem Ija : decode La 171 = .ok (.iload 9, 2) := by decide +kernel
theorem Kja : decode La 173 = .ok (.invokestatic 98, 3) := by decide +kernel
theorem Lja : decode La 176 = .ok (.i2b, 1) := by decide +kernel
theorem Mja : decode La 177 = .ok (.bastore, 1) := by decide +kernel
theorem Pja : decode La 178 = .ok (.iinc 7 1, 3) := by decide +kernel
theorem Rja : decode La 181 = .ok (.goto (-88), 3) := by decide +kernel
theorem Zl : decode La 190 = .ok (.iload 7, 2) := by decide +kernel
theorem Am : decode La 192 = .ok (.iload 4, 2) := by decide +kernel
theorem Bm : decode La 194 = .ok (.if_icmp .ne 32, 3) := by decide +kernel
theorem Uja : decode La 197 = .ok (.iload 5, 2) := by decide +kernel
theorem Vja : decode La 199 = .ok (.aload 6, 2) := by decide +kernel
theorem Wja : decode La 201 = .ok (.arraylength, 1) := by decide +kernel
theorem Yja : decode La 202 = .ok (.if_icmp .eq 12, 3) := by decide +kernel
theorem Zja : decode La 205 = .ok (.aload 6, 2) := by decide +kernel
theorem Aka : decode La 207 = .ok (.iload 5, 2) := by decide +kernel
theorem Bka : decode La 209 = .ok (.invokestatic 102, 3) := by decide +kernel
theorem Yua : parseMethodDescriptor "([BI)[B" = some ⟨[(.array .byte), .int], some (.array .byte)⟩ := by decide +kernel
theorem Dka : decode La 212 = .ok (.astore 6, 2) := by decide +kernel
theorem Gka : decode La 214 = .ok (.aload_n 0, 1) := by decide +kernel
theorem Hka : decode La 215 = .ok (.aload 6, 2) := by decide +kernel
theorem Ika : decode La 217 = .ok (.putfield 9, 3) := by decide +kernel
theorem Kka : decode La 220 = .ok (.aload_n 0, 1) := by decide +kernel
theorem Lka : decode La 221 = .ok (.iconst 0, 1) := by decide +kernel
theorem Mka : decode La 222 = .ok (.putfield 15, 3) := by decide +kernel
theorem Pka : decode La 225 = .ok (.return_, 1) := by decide +kernel
def R3a (Z : State) (a1 t0 : Addr) (k0 : ClassId) (b0 b1 b2 : Int32) (Ra Ya Ia Ua Ka Ga Ma : Addr) (Da : Int32) (Aa : Value) (h0 : Heap) (n0 : Nat) (v : Option Value) (h : Heap) (L : List Loc) : Prop := ∃ (b : Addr) (k : ClassId), v = none ∧ Fr n0 L ∧ Old Z n0 h ∧ Keep h0 h [a1] ∧ n0 ≤ b ∧ h0.size ≤ b ∧ Exa Z h a1 "java/lang/String" ∧ Fld Z h a1 "java/lang/String" "coder" "B" (.int 0) ∧ Fld Z h a1 "java/lang/String" "value" "[B" (.ref b) ∧ Arv Z h b k .byte (2 : Int32) [(.int b0), (.int (((((b1 <<< ((6 : Int32) &&& 31)) ^^^ b2) ^^^ (3968 : Int32)).toUInt32.toUInt16.toUInt32.toInt32).toInt8.toInt32))] (.int 0)
theorem M7a (l : Launch) (Z : State) (a0 : Array Value) (hw : ∀ d ∈ tables_1, d.before a0 Z = true) (ws : List Jvm.Cond) (a1 t0 : Addr) (k0 : ClassId) (b0 b1 b2 : Int32) (Ra Ya Ia Ua Ka Ga Ma : Addr) (Da : Int32) (Aa : Value) (h0 : Heap) (n0 : Nat) (O0 : Old Z n0 h0) (hE : EV Z Ra Ya Ia Ua Ka Ga Ma Da Aa) (P0 : Exa Z h0 a1 "java/lang/String") (P1 : Fld Z h0 a1 "java/lang/String" "value" "[B" .null) (P2 : Fld Z h0 a1 "java/lang/String" "coder" "B" (.int 0)) (P3 : Arv Z h0 t0 k0 .byte (3 : Int32) [(.int b0), (.int b1), (.int b2)] (.int 0)) (P4 : Exa Z h0 t0 "[B") (g_a1 : n0 ≤ a1) (na : ¬ (t0 = a1)) (m0 : ¬ (b0 < (0 : Int32))) (m1 : b1 < (0 : Int32)) (m2 : (b1 &&& (254 : Int32)) = (194 : Int32)) (m3 : b2 < (-64 : Int32)) :
   MetFree l Wr (head1 (Jvm.Cond.codeWith Wr jdk_42_method_11_code 11 none [((800 : Nat), (813 : Nat), (816 : Nat), (202 : Nat))] :: ws) (Hb 2 2 5 32)) (fun a U => a = #[(.ref a1), (.ref Ga), (.ref t0), (.int 0), (.int 3)] ∧ Z.Warmed39 U.vm ∧ U.heap = h0) (fun _ _ _ _ _ => True) (fun _ U o U' => ∃ v L, o = .returned v ∧ R3a Z a1 t0 k0 b0 b1 b2 Ra Ya Ia Ua Ka Ga Ma Da Aa h0 n0 v U'.heap L ∧ FrameEnd U o U' L (Hb 2 2 5 32).cells (Hb 2 2 5 32).slots) := by
 refine MetFree.of_bodySF (plainFor_of_name Mb) hisWith ?_
 intro p e s m args below meth c s₁ Bd hml0 hP hK
 obtain ⟨rfl, hZ, hh⟩ := hP
 have hx := Bd.exec
 have hby := Bd.bytes
 have hml : c.maxLocals = 11 := hml0
 have hown : s.vm.findClass "java/lang/String" = some m.cls := findClass_of_methodNamed Bd.named
 have hnm := (name_of_methodNamed Bd.named Bd.method).1
 have X00 : Stand p l e (Hb 2 2 5 32) s m #[(.ref a1), (.ref Ga), (.ref t0), (.int 0), (.int 3)] below meth c s₁ [] 0 0 := Stand.of_body Bd
 have e00 : s₁.heap = h0 := by rw [← hh, Bd.state]; rfl
 have N00 := Fr.nil n0
 refine Classical.byContradiction fun hNG => ?_
 have K00 := Keep.refl h0 [a1]
 have k00 : Ab p e below m s₁ #[(.ref a1), (.ref Ga), (.ref t0), (.int 0), (.int 3)] 11 s₁ 0 #[vr a1, vr Ga, vr t0, vi 0, vi 3, .unset, .unset, .unset, .unset, .unset, .unset] [] := fun t k => castTop (Z8 m a1 Ga t0 (0 : Int32) (3 : Int32) ) k
 obtain ⟨_, _, _, _, _, _, _, _, _, _, _, _, Po, _, Vc, Mc, _, _, _, _, _, eq_UTF_8_INSTANCE⟩ := id hE
 obtain ⟨T10, X10, e10, st10⟩ := initO X00 hx hZ hown (Ba hw 64 rfl) (Ba hw 26 rfl) (Ba hw 27 rfl) e00 (g := (mkF m 1 #[vr a1, vr Ga, vr t0, vi 0, vi 3, .unset, .unset, .unset, .unset, .unset, .unset] [(.ref a1)])) rfl (by rw [hml]; rfl) rfl (hb hby Lk) (by decide) (W := 0) (by show 2 * 0 + _ ≤ _; exact Nat.le_of_eq rfl) (by decide)
 obtain ⟨T11, X11, e11, st11⟩ := getS2 X10 hx hZ hown (host := "") (Or.inl (Ba hw 65 rfl)) Via.refl e10 (Po.ext O0.2) (g := (mkF m 31 #[vr a1, vr Ga, vr t0, vi 0, vi 3, .unset, .unset, .unset, .unset, .unset, .unset] [(.ref Ga)])) rfl (hb hby Vi)
 obtain ⟨T12, X12, e12, st12⟩ := getS2 X11 hx hZ hown (host := "") (Or.inl (Ba hw 67 rfl)) Via.refl e11 (Vc.ext O0.2) (g := (mkF m 37 #[vr a1, vr Ga, vr t0, vi 0, vi 3, .unset, .unset, .unset, .unset, .unset, .unset] [])) rfl (hb hby Yi)
 obtain ⟨v13, T13, Lc13, X13, hQ13, st13⟩ := Ub X12 hx hZ hown (Wxa l Z a0 hw [] t0 k0 b0 b1 b2 _ _ _ _ _ _ _ _ _ h0 n0 O0 hE P3 m0 m1) (Ba hw 68 rfl) (Ba hw 69 rfl) (Ba hw 70 rfl) (Ba hw 71 rfl) e12 (g := (mkF m 47 #[vr a1, vr Ga, vr t0, vi 0, vi 3, .unset, .unset, .unset, .unset, .unset, .unset] [(.int 3), (.int 0), (.ref t0)])) rfl (by rw [hml]; rfl) (argsL := [(.ref t0), (.int 0), (.int 3)]) (rest := []) rfl (lenOf Bba rfl) rfl (W := 0) (by show 2 * 0 + _ ≤ _; exact Nat.le_of_eq rfl) (hb hby Gj) (by decide) (by decide) (by decide) (by decide) (by decide)
 obtain ⟨rfl, N13q, hp13⟩ := hQ13
 have N13 := Fr.app N00 N13q
 obtain ⟨v14, T14, Lc14, X14, hQ14, st14⟩ := Ub X13 hx hZ hown (B1a l Z a0 hw [] t0 k0 b0 b1 b2 _ _ _ _ _ _ _ _ _ h0 n0 O0 hE P3 P4 ) (Ba hw 72 rfl) (Ba hw 73 rfl) (Ba hw 74 rfl) (Ba hw 75 rfl) hp13 (g := (mkF m 84 #[vr a1, vr Ga, vr t0, vi 0, vi 3, vi 1, .unset, .unset, .unset, .unset, .unset] [(.int 3), (.int 0), (.ref t0)])) rfl (by rw [hml]; rfl) (argsL := [(.ref t0), (.int 0), (.int 3)]) (rest := []) rfl (lenOf A9 rfl) rfl (W := 0) (by show 2 * 0 + _ ≤ _; exact Nat.le_of_eq rfl) (hb hby Wn) (by decide) (by decide) (by decide) (by decide) (by decide)
 obtain ⟨b14, k14, rfl, N14q, O14, Kc14, g_b14, gs_b14, F14_0⟩ := hQ14
 have N14 := Fr.app N13 N14q
 have K14 := K00.trans Kc14 (fun x hx => nomatch hx)
 have s_b14 := Nat.le_trans K00.1 gs_b14
 have lt_b14 := F14_0.lt
 obtain ⟨cl15, Ar15, q15, Sz15, Nn15, Hs15, Gf15⟩ := id F14_0
 have hin16 := inb_of (j := 1) Sz15 ⟨by decide, by decide⟩
 have hat17 : cl15.slots[((1 : Int32)).toNatClampNeg]? = some (.int b1) := Hs15.at hin16 rfl
 obtain ⟨cl18, Ar18, q18, Sz18, Nn18, Hs18, Gf18⟩ := id F14_0
 have hin19 := inb_of (j := 2) Sz18 ⟨by decide, by decide⟩
 have hat20 : cl18.slots[((2 : Int32)).toNatClampNeg]? = some (.int b2) := Hs18.at hin19 rfl
 obtain ⟨v21, T21, Lc21, X21, hQ21, st21⟩ := Ub X14 hx hZ hown (V4a l Z a0 hw [] b1 b2 _ _ _ _ _ _ _ _ _ T14.heap n0 O14 hE ) (Ba hw 199 rfl) (Ba hw 200 rfl) (Ba hw 29 rfl) (Ba hw 201 rfl) rfl (g := (mkF m 173 #[vr a1, vr Ga, vr t0, vi 0, vi 3, vi 2, vr b14, vi 2, vi b1, vi b2, .unset] [(.int b2), (.int b1), (.int 1), (.ref b14)])) rfl (by rw [hml]; rfl) (argsL := [(.int b1), (.int b2)]) (rest := [(.int 1), (.ref b14)]) rfl (lenOf B2a rfl) rfl (W := 2) (by show 2 * 0 + _ ≤ _; exact Nat.le_of_eq rfl) (hb hby Kja) (by decide) (by decide) (by decide) (by decide) (by decide)
 obtain ⟨rfl, N21q, hp21⟩ := hQ21
 have N21 := Fr.app N14 N21q
 obtain ⟨cl22, Ar22, q22, Sz22, Nn22, Hs22, Gf22⟩ := id F14_0
 have hin23 := inb_of (j := 1) Sz22 ⟨by decide, by decide⟩
 obtain ⟨T24, h24, X24, e24, W24, st24⟩ := stB X21 hx hZ hp21 Ar22 (j := 1) hin23 (g := (mkF m 177 #[vr a1, vr Ga, vr t0, vi 0, vi 3, vi 2, vr b14, vi 2, vi b1, vi b2, .unset] [(.int (((((b1 <<< ((6 : Int32) &&& 31)) ^^^ b2) ^^^ (3968 : Int32)).toUInt32.toUInt16.toUInt32.toInt32).toInt8.toInt32)), (.int 1), (.ref b14)])) rfl rfl (hb hby Mja)
 have V24 : Arv Z h24 b14 k14 .byte (3 : Int32) [(.int b0), (.int (((((b1 <<< ((6 : Int32) &&& 31)) ^^^ b2) ^^^ (3968 : Int32)).toUInt32.toUInt16.toUInt32.toInt32).toInt8.toInt32)), (.int b2)] (.int 0) := by
   have q := Arv.set Ar22 q22 Sz22 Nn22 Hs22 Gf22 (fits_nar_byte _) W24 1 rfl (Nat.le_of_ble_eq_true rfl)
   first | exact q | (simp only [Bl, Pd] at q; exact q)
 have N24 := Fr.snoc X24 N21 g_b14
 have O24 := O14.wr W24 g_b14
 have K24 := K14.wr W24 (Or.inr s_b14)
 obtain ⟨cl25, Ar25, q25, Sz25, Nn25, Hs25, Gf25⟩ := id V24
 obtain ⟨v26, T26, Lc26, X26, hQ26, st26⟩ := Ub X24 hx hZ hown (D7a l Z a0 hw [] b14 k14 b0 (((((b1 <<< ((6 : Int32) &&& 31)) ^^^ b2) ^^^ (3968 : Int32)).toUInt32.toUInt16.toUInt32.toInt32).toInt8.toInt32) b2 _ _ _ _ _ _ _ _ _ h24 n0 O24 hE V24 ) (Ba hw 145 rfl) (Ba hw 146 rfl) (Ba hw 74 rfl) (Ba hw 147 rfl) e24 (g := (mkF m 209 #[vr a1, vr Ga, vr t0, vi 0, vi 3, vi 2, vr b14, vi 3, vi b1, vi b2, .unset] [(.int 2), (.ref b14)])) rfl (by rw [hml]; rfl) (argsL := [(.ref b14), (.int 2)]) (rest := []) rfl (lenOf Yua rfl) rfl (W := 0) (by show 2 * 0 + _ ≤ _; exact Nat.le_of_eq rfl) (hb hby Bka) (by decide) (by decide) (by decide) (by decide) (by decide)
 obtain ⟨b26, k26, rfl, N26q, O26, Kc26, g_b26, gs_b26, F26_0⟩ := hQ26
 have N26 := Fr.app N24 N26q
 have K26 := K24.trans Kc26 (fun x hx => nomatch hx)
 have s_b26 := Nat.le_trans K24.1 gs_b26
 have lt_b26 := F26_0.lt
 have f27 := (((P0.keep Kc14).wr W24).keep Kc26)
 have ne28 : ¬ (a1 = b14) := (Nat.ne_of_lt (Nat.lt_of_lt_of_le P0.lt gs_b14))
 have f29 := (((P1.keep Kc14 List.not_mem_nil).other W24 (Or.inl ne28)).keep Kc26 List.not_mem_nil)
 obtain ⟨T30, h30, X30, e30, W30, st30⟩ := putF X26 hx hZ hown (host := "") (Or.inl (Ba hw 156 rfl)) Via.refl rfl f29 f27 (Or.inr ⟨(Ba hw 31 rfl), rfl, hnm⟩) (Ba hw 30 rfl) (ty := (.array .byte)) (by decide) rfl rfl (g := (mkF m 217 #[vr a1, vr Ga, vr t0, vi 0, vi 3, vi 2, vr b26, vi 3, vi b1, vi b2, .unset] [(.ref b26), (.ref a1)])) rfl rfl (hb hby Ika)
 have F30_value := f29.same W30
 have N30 := Fr.snoc X30 N26 g_a1
 have O30 := O26.wr W30 g_a1
 have K30 := K26.wr W30 (Or.inl (List.mem_of_getElem? (i := 0) rfl))
 have f31 := (f27.wr W30)
 have f32 := ((((P2.keep Kc14 List.not_mem_nil).other W24 (Or.inl ne28)).keep Kc26 List.not_mem_nil).other W30 (Or.inr (slot_ne (Or.inr (Ba hw 32 rfl)) (Or.inr (Ba hw 31 rfl)) (by decide) (t := .byte) (t' := (.array .byte)) (by decide) (by decide))))
 obtain ⟨T33, h33, X33, e33, W33, st33⟩ := putFN X30 hx hZ hown (Ba hw 157 rfl) Via.refl e30 f32 f31 (Or.inr ⟨(Ba hw 32 rfl), rfl, hnm⟩) (Ba hw 30 rfl) (ty := .byte) (v' := .int (0 : Int32)) (by decide) rfl (by decide) (g := (mkF m 222 #[vr a1, vr Ga, vr t0, vi 0, vi 3, vi 2, vr b26, vi 3, vi b1, vi b2, .unset] [(.int 0), (.ref a1)])) rfl rfl (hb hby Mka)
 have F33_coder := f32.same W33
 have N33 := Fr.snoc X33 N30 g_a1
 have O33 := O30.wr W33 g_a1
 have K33 := K30.wr W33 (Or.inl (List.mem_of_getElem? (i := 0) rfl))
 have k34 : Ab p e below m s₁ #[(.ref a1), (.ref Ga), (.ref t0), (.int 0), (.int 3)] 11 T33 225 #[vr a1, vr Ga, vr t0, vi 0, vi 3, vi 2, vr b26, vi 3, vi b1, vi b2, .unset] [] := by
  intro t k
  refine k00 t ?_
  refine Va X00 hx hby Kk rfl rfl ?_
  refine st10 _ ?_
  refine Wa X10 hx hby Mk rfl ?_
  refine XS.ifYes X10.here hx rfl (pc0 := 6) (pc' := 30) rfl (hb hby Pk) rfl ((if0 _ _).trans (feq (by decide : ¬ ((3 : Int32) = (0 : Int32)))).2) (by decide) (by decide) ?_
  refine Va X10 hx hby Ui rfl rfl ?_
  refine st11 _ ?_
  refine Jvm.RoadKit.acmp (g := (mkF m 34 #[vr a1, vr Ga, vr t0, vi 0, vi 3, .unset, .unset, .unset, .unset, .unset, .unset] [(.ref Ma), (.ref Ga)])) X11 hx rfl rfl rfl (pc0 := 34) (pc' := 37) (same := true) rfl (hb hby Wi) rfl (decide_eq_true (congrArg Value.ref eq_UTF_8_INSTANCE)) (by decide) (by decide) ?_
  refine st12 _ ?_
  refine XS.ifNo X12.here hx rfl (hb hby Zi) rfl ((if0 _ _).trans (feq Mc).1) ?_
  refine Va X12 hx hby Aj rfl rfl ?_
  refine Pa X12 hx hby Bj rfl ?_
  refine Wa X12 hx hby Dj rfl ?_
  show Za p e below m T12 47 #[vr a1, vr Ga, vr t0, vi 0, vi 3, .unset, .unset, .unset, .unset, .unset, .unset] [(.int 3), (.int 0), (.ref t0)] t
  refine st13 _ ?_
  refine XS.istore X13.here hx rfl (hb hby Hj) rfl (l' := #[vr a1, vr Ga, vr t0, vi 0, vi 3, vi 1, .unset, .unset, .unset, .unset, .unset]) rfl ?_
  refine Wa X13 hx hby Ij rfl ?_
  refine Wa X13 hx hby Kj rfl ?_
  refine XS.icmpYes X13.here hx rfl (pc0 := 56) (pc' := 78) rfl (hb hby Lj) rfl (feq (by decide : ¬ ((1 : Int32) = (3 : Int32)))).2 (by decide) (by decide) ?_
  refine Va X13 hx hby Mn rfl rfl ?_
  refine Pa X13 hx hby Pn rfl ?_
  refine Pa X13 hx hby Rn rfl ?_
  refine Wa X13 hx hby Un rfl ?_
  refine XS.iadd X13.here hx rfl (hb hby Vn) rfl ?_
  show Za p e below m T13 84 #[vr a1, vr Ga, vr t0, vi 0, vi 3, vi 1, .unset, .unset, .unset, .unset, .unset] [(.int ((0 : Int32) + (3 : Int32))), (.int 0), (.ref t0)] t
  rw [Iza]
  refine st14 _ ?_
  refine XS.astore X14.here hx rfl (hb hby Yn) rfl rfl (l' := #[vr a1, vr Ga, vr t0, vi 0, vi 3, vi 1, vr b14, .unset, .unset, .unset, .unset]) rfl ?_
  refine Wa X14 hx hby Zn rfl ?_
  refine XS.istore X14.here hx rfl (hb hby Ao) rfl (l' := #[vr a1, vr Ga, vr t0, vi 0, vi 3, vi 1, vr b14, vi 1, .unset, .unset, .unset]) rfl ?_
  refine Wa X14 hx hby Bk rfl ?_
  refine Wa X14 hx hby Dk rfl ?_
  refine XS.icmpNo X14.here hx rfl (hb hby Gk) rfl (tlt (by decide : (1 : Int32) < (3 : Int32))).2.1 ?_
  refine Dd X14 hx hby Gl rfl rfl ?_
  refine Wa X14 hx hby Hl rfl ?_
  refine XS.iinc X14.here hx rfl (hb hby Il) rfl (l' := #[vr a1, vr Ga, vr t0, vi 0, vi 3, vi 1, vr b14, vi ((1 : Int32) + (1 : Int32)), .unset, .unset, .unset]) rfl ?_
  rw [Hm]
  refine X14.baloadBytes hx (j := 1) (v := (.int b1)) (by exact Ar15.1) (State.isArrayOf_alike hZ.alike Ar15.2.1) Ar15.2.2 hin16 hat17 (g := (mkF m 107 #[vr a1, vr Ga, vr t0, vi 0, vi 3, vi 1, vr b14, vi 2, .unset, .unset, .unset] [(.int 1), (.ref b14)])) rfl rfl (hb hby Kl) _ ?_
  show Za p e below m T14 108 #[vr a1, vr Ga, vr t0, vi 0, vi 3, vi 1, vr b14, vi 2, .unset, .unset, .unset] [(.int b1)] t
  refine XS.istore X14.here hx rfl (hb hby Ll) rfl (l' := #[vr a1, vr Ga, vr t0, vi 0, vi 3, vi 1, vr b14, vi 2, vi b1, .unset, .unset]) rfl ?_
  refine Wa X14 hx hby Ml rfl ?_
  refine XS.ifYes X14.here hx rfl (pc0 := 112) (pc' := 129) rfl (hb hby Pl) rfl ((if0 _ _).trans (tlt m1).1) (by decide) (by decide) ?_
  refine Wa X14 hx hby Rl rfl ?_
  refine XS.sipush X14.here hx rfl (hb hby Ul) ?_
  refine XS.iand X14.here hx rfl (hb hby Vl) rfl ?_
  refine XS.sipush X14.here hx rfl (hb hby Wl) ?_
  refine XS.icmpNo X14.here hx rfl (hb hby Yl) rfl (teq m2).2 ?_
  refine Wa X14 hx hby Kia rfl ?_
  refine Wa X14 hx hby Lia rfl ?_
  refine XS.icmpNo X14.here hx rfl (hb hby Mia) rfl (tlt (by decide : (2 : Int32) < (3 : Int32))).2.1 ?_
  refine Dd X14 hx hby Pia rfl rfl ?_
  show Za p e below m T14 150 #[vr a1, vr Ga, vr t0, vi 0, vi 3, vi 1, vr b14, vi 2, vi b1, .unset, .unset] [(.ref b14)] t
  refine Wa X14 hx hby Ria rfl ?_
  refine X14.baloadBytes hx (j := 2) (v := (.int b2)) (by exact Ar18.1) (State.isArrayOf_alike hZ.alike Ar18.2.1) Ar18.2.2 hin19 hat20 (g := (mkF m 152 #[vr a1, vr Ga, vr t0, vi 0, vi 3, vi 1, vr b14, vi 2, vi b1, .unset, .unset] [(.int 2), (.ref b14)])) rfl rfl (hb hby Uia) _ ?_
  refine XS.istore X14.here hx rfl (hb hby Wia) rfl (l' := #[vr a1, vr Ga, vr t0, vi 0, vi 3, vi 1, vr b14, vi 2, vi b1, vi b2, .unset]) rfl ?_
  refine Wa X14 hx hby Yia rfl ?_
  refine XS.bipush X14.here hx rfl (hb hby Zia) ?_
  refine XS.icmpNo X14.here hx rfl (hb hby Aja) rfl (tlt m3).2.1 ?_
  refine Dd X14 hx hby Bja rfl rfl ?_
  refine Wa X14 hx hby Dja rfl ?_
  refine XS.iinc X14.here hx rfl (hb hby Gja) rfl (l' := #[vr a1, vr Ga, vr t0, vi 0, vi 3, vi ((1 : Int32) + (1 : Int32)), vr b14, vi 2, vi b1, vi b2, .unset]) rfl ?_
  rw [Hm]
  refine Wa X14 hx hby Hja rfl ?_
  refine Wa X14 hx hby Ija rfl ?_
  refine st21 _ ?_
  show Za p e below m T21 176 #[vr a1, vr Ga, vr t0, vi 0, vi 3, vi 2, vr b14, vi 2, vi b1, vi b2, .unset] [(.int ((((b1 <<< ((6 : Int32) &&& 31)) ^^^ b2) ^^^ (3968 : Int32)).toUInt32.toUInt16.toUInt32.toInt32)), (.int 1), (.ref b14)] t
  refine XS.i2b X21.here hx rfl (hb hby Lja) rfl ?_
  refine st24 _ ?_
  refine XS.iinc X24.here hx rfl (hb hby Pja) rfl (l' := #[vr a1, vr Ga, vr t0, vi 0, vi 3, vi 2, vr b14, vi ((2 : Int32) + (1 : Int32)), vi b1, vi b2, .unset]) rfl ?_
  rw [Lv]
  refine XS.goto X24.here hx rfl (pc0 := 181) (pc' := 93) rfl (hb hby Rja) (by decide) (by decide) ?_
  refine Wa X24 hx hby Bk rfl ?_
  refine Wa X24 hx hby Dk rfl ?_
  refine XS.icmpYes X24.here hx rfl (pc0 := 97) (pc' := 190) rfl (hb hby Gk) rfl (flt (by decide : ¬ ((3 : Int32) < (3 : Int32)))).2.1 (by decide) (by decide) ?_
  refine Wa X24 hx hby Zl rfl ?_
  refine Wa X24 hx hby Am rfl ?_
  refine XS.icmpNo X24.here hx rfl (hb hby Bm) rfl (teq (by decide : (3 : Int32) = (3 : Int32))).2 ?_
  refine Wa X24 hx hby Uja rfl ?_
  refine Dd X24 hx hby Vja rfl rfl ?_
  show Za p e below m T24 201 #[vr a1, vr Ga, vr t0, vi 0, vi 3, vi 2, vr b14, vi 3, vi b1, vi b2, .unset] [(.ref b14), (.int 2)] t
  refine X24.arraylength hx (by rw [e24]; exact Ar25.1) (State.isArrayOf_alike hZ.alike Ar25.2.1) (g := (mkF m 201 #[vr a1, vr Ga, vr t0, vi 0, vi 3, vi 2, vr b14, vi 3, vi b1, vi b2, .unset] [(.ref b14), (.int 2)])) rfl rfl (hb hby Wja) _ ?_
  rw [len_of Sz25 Nn25]
  refine XS.icmpNo X24.here hx rfl (hb hby Yja) rfl (feq (by decide : ¬ ((2 : Int32) = (3 : Int32)))).1 ?_
  refine Dd X24 hx hby Zja rfl rfl ?_
  refine Wa X24 hx hby Aka rfl ?_
  refine st26 _ ?_
  refine XS.astore X26.here hx rfl (hb hby Dka) rfl rfl (l' := #[vr a1, vr Ga, vr t0, vi 0, vi 3, vi 2, vr b26, vi 3, vi b1, vi b2, .unset]) rfl ?_
  refine Va X26 hx hby Gka rfl rfl ?_
  refine Dd X26 hx hby Hka rfl rfl ?_
  refine st30 _ ?_
  refine Va X30 hx hby Kka rfl rfl ?_
  refine XS.iconst X30.here hx rfl (hb hby Lka) ?_
  refine st33 _ ?_
  show Za p e below m T33 225 #[vr a1, vr Ga, vr t0, vi 0, vi 3, vi 2, vr b26, vi 3, vi b1, vi b2, .unset] [] t
  exact k
 have f35 := (f31.wr W33)
 have f36 := (F30_value.other W33 (Or.inr (slot_ne (Or.inr (Ba hw 31 rfl)) (Or.inr (Ba hw 32 rfl)) (by decide) (t := (.array .byte)) (t' := .byte) (by decide) (by decide))))
 have ne37 : ¬ (b26 = a1) := (Ne.symm (Nat.ne_of_lt (Nat.lt_of_lt_of_le (Nat.lt_of_lt_of_le (Nat.lt_of_lt_of_le P0.lt Kc14.1) (Keep.of_wr W24).1) gs_b26)))
 have f38 := ((F26_0.other W30 ne37).other W33 ne37)
 obtain ⟨fs, hr, hrun, hended, hW, hsame⟩ := X33.leave (v := none) (fun _ => rfl)
 refine hNG ⟨_, _, k34 _ ?_, hrun, hended, _, _, rfl, ?_, ⟨_, rfl⟩, hW, hsame.mono (by decide) (by decide)⟩
 · exact X33.returnOut hx Bd.returns (hb hby Pka) hr
 · show R3a Z a1 t0 k0 b0 b1 b2 Ra Ya Ia Ua Ka Ga Ma Da Aa h0 n0 _ T33.heap _
   rw [e33]
   exact ⟨b26, k26, rfl, N33, O33, K33, g_b26, s_b26, f35, F33_coder, f36, f38⟩
theorem P7a (l : Launch) (Z : State) (a0 : Array Value) (hw : Pb a0 Z) (ws : List Jvm.Cond) (a1 t0 : Addr) (k0 : ClassId) (b0 b1 b2 : Int32) (Ra Ya Ia Ua Ka Ga Ma : Addr) (Da : Int32) (Aa : Value) (h0 : Heap) (n0 : Nat) (O0 : Old Z n0 h0) (hE : EV Z Ra Ya Ia Ua Ka Ga Ma Da Aa) (P0 : Exa Z h0 a1 "java/lang/String") (P1 : Fld Z h0 a1 "java/lang/String" "value" "[B" .null) (P2 : Fld Z h0 a1 "java/lang/String" "coder" "B" (.int 0)) (P3 : Arv Z h0 t0 k0 .byte (3 : Int32) [(.int b0), (.int b1), (.int b2)] (.int 0)) (P4 : Exa Z h0 t0 "[B") (g_a1 : n0 ≤ a1) (na : ¬ (t0 = a1)) (m0 : ¬ (b0 < (0 : Int32))) (m1 : b1 < (0 : Int32)) (m2 : (b1 &&& (254 : Int32)) = (194 : Int32)) (m3 : b2 < (-64 : Int32)) :
   Ib l G6 (Jvm.Cond.code G6 jdk_42_method_49_code 3 none :: ws) (Hb 3 2 5 54) #[(.ref a1), (.ref t0), (.ref Ga)] Z h0 (fun v h L => ∃ (b : Addr) (k : ClassId), v = none ∧ Fr n0 L ∧ Old Z n0 h ∧ Keep h0 h [a1] ∧ n0 ≤ b ∧ h0.size ≤ b ∧ Exa Z h a1 "java/lang/String" ∧ Fld Z h a1 "java/lang/String" "coder" "B" (.int 0) ∧ Fld Z h a1 "java/lang/String" "value" "[B" (.ref b) ∧ Arv Z h b k .byte (2 : Int32) [(.int b0), (.int (((((b1 <<< ((6 : Int32) &&& 31)) ^^^ b2) ^^^ (3968 : Int32)).toUInt32.toUInt16.toUInt32.toInt32).toInt8.toInt32))] (.int 0)) := by
 refine Db (plainFor_of_name Mb) n0 [a1] fun p e s m below meth c s₁ hx hby hml hown hnm hret hlk X00 e00 hZ N00 K00 hNG => ?_
 have k00 : Ab p e below m s₁ #[(.ref a1), (.ref t0), (.ref Ga)] 3 s₁ 0 #[vr a1, vr t0, vr Ga] [] := fun t k => castTop (Hba m a1 t0 Ga ) k
 obtain ⟨_, _, _, _, _, _, _, _, _, _, _, G5, _⟩ := id hE
 obtain ⟨v10, T10, Lc10, X10, hQ10, st10⟩ := Ub X00 hx hZ hown (Ywa l Z a0 hw []  _ _ _ _ _ _ _ _ _ h0 n0 O0 hE ) (Ba hw 55 rfl) (Ba hw 56 rfl) (Ba hw 37 rfl) (Ba hw 57 rfl) e00 (g := (mkF m 2 #[vr a1, vr t0, vr Ga] [(.ref Ga), (.ref a1)])) rfl (by rw [hml]; rfl) (argsL := [(.ref Ga)]) (rest := [(.ref a1)]) rfl (lenOf He rfl) rfl (W := 1) (by show 2 * 0 + _ ≤ _; exact Nat.le_of_eq rfl) (hb hby Vk) (by decide) (by decide) (by decide) (by decide) (by decide)
 obtain ⟨rfl, N10q, hp10⟩ := hQ10
 have N10 := Fr.app N00 N10q
 obtain ⟨T11, X11, e11, st11⟩ := castY X10 hx hZ hown (Ba hw 58 rfl) hp10 (Ins.of_exa (G5.ext O0.2) (Ba hw 59 rfl)) (g := (mkF m 5 #[vr a1, vr t0, vr Ga] [(.ref Ga), (.ref a1)])) rfl rfl (hb hby Wk)
 obtain ⟨cl12, Ar12, q12, Sz12, Nn12, Hs12, Gf12⟩ := id P3
 obtain ⟨_, _, ⟨T13, L13, k13, n13⟩, -, X13, ⟨Lc13, hQ13, l13, y13, z13⟩, st13⟩ := X11.specialBackH hx (y := Wr) rfl hown (mvT hZ (Ba hw 60 rfl)) (mvT hZ (Ba hw 61 rfl)) (mvT hZ (Ba hw 63 rfl)) (by decide) (backOfWith (W := 0) (M7a l Z a0 hw [] a1 t0 k0 b0 b1 b2 _ _ _ _ _ _ _ _ _ h0 n0 O0 hE P0 P1 P2 P3 P4 g_a1 na m0 m1 m2 m3 ) hZ (Ba hw 63 rfl) (Ba hw 29 rfl) (by decide) (by decide)) (g := (mkF m 12 #[vr a1, vr t0, vr Ga] [(.int 3), (.int 0), (.ref t0), (.ref Ga), (.ref a1)])) rfl (by rw [hml]; rfl) (Steps.refl _) (a := a1) (argsL := [(.ref Ga), (.ref t0), (.int 0), (.int 3)]) (rest := []) (lenOf Ag rfl) rfl (by show 2 * 0 + _ ≤ _; exact Nat.le_of_eq rfl) (hb hby Rj) (fun _ _ => ⟨rfl, e11, (by decide : 0 + 2 ≤ _), (by decide : 0 + 5 ≤ _)⟩)
 dsimp only [Pt.U, Pt.locs, Pt.cells, Pt.slots] at X13 l13 y13 z13 st13 hQ13
 subst l13 y13 z13
 obtain ⟨b13, k13, rfl, N13q, O13, Kc13, g_b13, gs_b13, F13_0, F13_1, F13_2, F13_3⟩ := hQ13
 have N13 := Fr.app N10 N13q
 have K13 := K00.trans Kc13 (allS (Or.inl (List.mem_of_getElem? (i := 0) rfl)) all0)
 have s_b13 := Nat.le_trans K00.1 gs_b13
 have lt_b13 := F13_3.lt
 have k14 : Ab p e below m s₁ #[(.ref a1), (.ref t0), (.ref Ga)] 3 T13 15 #[vr a1, vr t0, vr Ga] [] := by
  intro t k
  refine k00 t ?_
  refine Va X00 hx hby Rk rfl rfl ?_
  refine Va X00 hx hby Uk rfl rfl ?_
  refine st10 _ ?_
  refine st11 _ ?_
  refine Va X11 hx hby Yk rfl rfl ?_
  refine XS.iconst X11.here hx rfl (hb hby Zk) ?_
  refine Va X11 hx hby Mj rfl rfl ?_
  refine X11.arraylength hx (by rw [e11]; exact Ar12.1) (State.isArrayOf_alike hZ.alike Ar12.2.1) (g := (mkF m 11 #[vr a1, vr t0, vr Ga] [(.ref t0), (.int 0), (.ref t0), (.ref Ga), (.ref a1)])) rfl rfl (hb hby Pj) _ ?_
  rw [len_of Sz12 Nn12]
  refine st13.trans ?_
  exact k
 exact Yg hNG hlk X13 rfl (by decide) (by decide) (fun fs hr => k14 _ (X13.returnOut hx hret (hb hby Uj) hr)) ⟨b13, k13, rfl, N13, O13, K13, g_b13, s_b13, F13_0, F13_1, F13_2, F13_3⟩
theorem R7a (l : Launch) (Z : State) (a0 : Array Value) (hw : Pb a0 Z) (ws : List Jvm.Cond) (u0 t0 : Addr) (k0 : ClassId) (b0 b1 b2 : Int32) (Ra Ya Ia Ua Ka Ga Ma : Addr) (Da : Int32) (Aa : Value) (h0 : Heap) (n0 : Nat) (O0 : Old Z n0 h0) (hE : EV Z Ra Ya Ia Ua Ka Ga Ma Da Aa) (P0 : Fld Z h0 u0 "com/example/attenuation/attenuation/core/Outcome" "body" "[B" (.ref t0)) (P1 : Exa Z h0 u0 "com/example/attenuation/attenuation/core/Outcome") (P2 : Arv Z h0 t0 k0 .byte (3 : Int32) [(.int b0), (.int b1), (.int b2)] (.int 0)) (P3 : Exa Z h0 t0 "[B") (m0 : ¬ (b0 < (0 : Int32))) (m1 : b1 < (0 : Int32)) (m2 : (b1 &&& (254 : Int32)) = (194 : Int32)) (m3 : b2 < (-64 : Int32)) :
   Ib l H6 (Jvm.Cond.code H6 prog_16_method_10_code 1 (some (.object "java/lang/String")) :: ws) (Hb 4 3 9 69) #[(.ref u0)] Z h0 (fun v h L => ∃ (s : Addr) (b : Addr) (k : ClassId), v = some (.ref s) ∧ Fr n0 L ∧ Old Z n0 h ∧ Keep h0 h [] ∧ n0 ≤ s ∧ h0.size ≤ s ∧ n0 ≤ b ∧ h0.size ≤ b ∧ ¬ (s = b) ∧ Exa Z h s "java/lang/String" ∧ Fld Z h s "java/lang/String" "coder" "B" (.int 0) ∧ Fld Z h s "java/lang/String" "value" "[B" (.ref b) ∧ Arv Z h b k .byte (2 : Int32) [(.int b0), (.int (((((b1 <<< ((6 : Int32) &&& 31)) ^^^ b2) ^^^ (3968 : Int32)).toUInt32.toUInt16.toUInt32.toInt32).toInt8.toInt32))] (.int 0)) := by
 refine Db (plainFor_of_name Gd) n0 [] fun p e s m below meth c s₁ hx hby hml hown hnm hret hlk X00 e00 hZ N00 K00 hNG => ?_
 have k00 : Ab p e below m s₁ #[(.ref u0)] 1 s₁ 0 #[vr u0] [] := fun t k => castTop (Aba m u0 ) k
 obtain ⟨_, _, _, _, _, _, _, _, _, _, H5, _⟩ := id hE
 obtain ⟨T10, h10, X10, e10, E10, A10, D10, -, st10⟩ := newO X00 hx hZ hown (Ba hw 49 rfl) (Ba hw 30 rfl) (Ba hw 29 rfl) e00 (g := (mkF m 0 #[vr u0] [])) rfl (hb hby Vj) (by decide) (by decide)
 obtain ⟨b10, g10⟩ : ∃ z, z = h0.size := ⟨_, rfl⟩
 rw [← g10] at A10 D10 st10
 have O10 := O0.ext E10
 have g_b10 : n0 ≤ b10 := Nat.le_trans (Nat.le_of_eq O0.1.symm) (Nat.le_trans O0.2.1 (Nat.le_of_eq g10.symm))
 have s_b10 : h0.size ≤ b10 := Nat.le_trans K00.1 (Nat.le_of_eq g10.symm)
 have K10 := K00.ext E10
 have lt_b10 := A10.lt
 have F10_value : Fld Z h10 b10 "java/lang/String" "value" "[B" .null := D10 (Or.inr (Ba hw 31 rfl)) (ty := (.array .byte)) (by decide)
 have F10_coder : Fld Z h10 b10 "java/lang/String" "coder" "B" (.int 0) := D10 (Or.inr (Ba hw 32 rfl)) (ty := .byte) (by decide)
 have f11 := (P0.ext E10)
 obtain ⟨T12, X12, e12, st12⟩ := getF X10 hx hZ hown (host := "") (Or.inl (Ba hw 42 rfl)) Via.refl e10 f11 (g := (mkF m 5 #[vr u0] [(.ref u0), (.ref b10), (.ref b10)])) rfl rfl (hb hby Zj)
 obtain ⟨T13, X13, e13, st13⟩ := getS2 X12 hx hZ hown (host := "") (Or.inl (Ba hw 50 rfl)) Via.refl e12 (H5.ext O10.2) (g := (mkF m 8 #[vr u0] [(.ref t0), (.ref b10), (.ref b10)])) rfl (hb hby Ak)
 have ne14 : ¬ (t0 = b10) := (Nat.ne_of_lt (Nat.lt_of_lt_of_le P2.lt (Nat.le_of_eq g10.symm)))
 have f15 := (P2.ext E10)
 have f16 := (P3.ext E10)
 obtain ⟨v17, T17, Lc17, X17, hQ17, st17⟩ := G1 X13 hx hZ hown (a := b10) (P7a l Z a0 hw [] b10 t0 k0 b0 b1 b2 _ _ _ _ _ _ _ _ _ h10 n0 O10 hE A10 F10_value F10_coder f15 f16 g_b10 ne14 m0 m1 m2 m3 ) (Ba hw 52 rfl) (Ba hw 53 rfl) (Ba hw 29 rfl) (Ba hw 54 rfl) e13 (g := (mkF m 11 #[vr u0] [(.ref Ga), (.ref t0), (.ref b10), (.ref b10)])) rfl (by rw [hml]; rfl) (argsL := [(.ref t0), (.ref Ga)]) (rest := [(.ref b10)]) rfl (lenOf Lg rfl) rfl (W := 1) (by show 2 * 0 + _ ≤ _; exact Nat.le_of_eq rfl) (hb hby Yh) (by decide) (by decide) (by decide) (by decide) rfl (by decide)
 obtain ⟨b17, k17, rfl, N17q, O17, Kc17, g_b17, gs_b17, F17_0, F17_1, F17_2, F17_3⟩ := hQ17
 have N17 := Fr.app N00 N17q
 have K17 := K10.trans Kc17 (allS (Or.inr s_b10) all0)
 have s_b17 := Nat.le_trans K10.1 gs_b17
 have lt_b17 := F17_3.lt
 have k18 : Ab p e below m s₁ #[(.ref u0)] 1 T17 14 #[vr u0] [(.ref b10)] := by
  intro t k
  refine k00 t ?_
  refine st10 _ ?_
  refine XS.dup X10.here hx rfl (hb hby Wj) rfl rfl ?_
  refine Va X10 hx hby Yj rfl rfl ?_
  refine st12 _ ?_
  refine st13 _ ?_
  refine st17 _ ?_
  exact k
 have ne19 : ¬ (b10 = b17) := (Nat.ne_of_lt (Nat.lt_of_lt_of_le lt_b10 gs_b17))
 exact Zb (.ref b10) hNG hlk hret X17 rfl (by decide) (by decide) (fun fs hr => k18 _ (retOut X17 hx (t := (.object "java/lang/String")) hret rfl (Or.inr (Or.inr (Or.inr (Or.inr ⟨rfl, rfl, rfl⟩)))) (hb hby Zh) hr)) ⟨b10, b17, k17, rfl, N17, O17, K17, g_b10, s_b10, g_b17, s_b17, ne19, F17_0, F17_1, F17_2, F17_3⟩
theorem Zp : decode La 184 = .ok (.iinc 7 (-1), 3) := by decide +kernel
theorem Mza : ((2 : Int32) + (-1 : Int32)) = (1 : Int32) := by decide
theorem Aq : decode La 187 = .ok (.goto 3, 3) := by decide +kernel
theorem Bq : decode La 226 = .ok (.iload 4, 2) := by decide +kernel
theorem Dq : decode La 228 = .ok (.invokestatic 60, 3) := by decide +kernel
theorem Gq : decode La 231 = .ok (.astore 8, 2) := by decide +kernel
theorem Hq : decode La 233 = .ok (.aload 6, 2) := by decide +kernel
theorem Iq : decode La 235 = .ok (.iconst 0, 1) := by decide +kernel
theorem Kq : decode La 236 = .ok (.aload 8, 2) := by decide +kernel
theorem Lq : decode La 238 = .ok (.iconst 0, 1) := by decide +kernel
theorem Mq : decode La 239 = .ok (.iload 5, 2) := by decide +kernel
theorem Pq : decode La 241 = .ok (.invokestatic 106, 3) := by decide +kernel
theorem Rq : decode La 244 = .ok (.aload 6, 2) := by decide +kernel
theorem Uq : decode La 246 = .ok (.iload 7, 2) := by decide +kernel
theorem Vq : decode La 248 = .ok (.iload 4, 2) := by decide +kernel
theorem Wq : decode La 250 = .ok (.aload 8, 2) := by decide +kernel
theorem Yq : decode La 252 = .ok (.iload 5, 2) := by decide +kernel
theorem Zq : decode La 254 = .ok (.iconst 1, 1) := by decide +kernel
theorem Ar : decode La 255 = .ok (.invokestatic 112, 3) := by decide +kernel
theorem Dba : parseMethodDescriptor "([BII[BIZ)I" = some ⟨[(.array .byte), .int, .int, (.array .byte), .int, .boolean], some .int⟩ := by decide +kernel
theorem Br : decode La 258 = .ok (.istore 5, 2) := by decide +kernel
theorem Dr : decode La 260 = .ok (.iload 5, 2) := by decide +kernel
theorem Gr : decode La 262 = .ok (.iload 4, 2) := by decide +kernel
theorem Hr : decode La 264 = .ok (.if_icmp .eq 14, 3) := by decide +kernel
theorem Yw : decode La 267 = .ok (.aload 8, 2) := by decide +kernel
theorem Zw : decode La 269 = .ok (.iload 5, 2) := by decide +kernel
theorem Ax : decode La 271 = .ok (.iconst 1, 1) := by decide +kernel
theorem Bx : decode La 272 = .ok (.ishl, 1) := by decide +kernel
theorem Dx : decode La 273 = .ok (.invokestatic 102, 3) := by decide +kernel
theorem Gx : decode La 276 = .ok (.astore 8, 2) := by decide +kernel
theorem Ir : decode La 278 = .ok (.aload_n 0, 1) := by decide +kernel
theorem Kr : decode La 279 = .ok (.aload 8, 2) := by decide +kernel
theorem Lr : decode La 281 = .ok (.putfield 9, 3) := by decide +kernel
theorem Mr : decode La 284 = .ok (.aload_n 0, 1) := by decide +kernel
theorem Pr : decode La 285 = .ok (.iconst 1, 1) := by decide +kernel
theorem Rr : decode La 286 = .ok (.putfield 15, 3) := by decide +kernel
theorem Ur : decode La 289 = .ok (.goto 590, 3) := by decide +kernel
theorem Vr : decode La 879 = .ok (.return_, 1) := by decide +kernel
def U3a (Z : State) (a1 t0 : Addr) (k0 : ClassId) (b0 b1 b2 : Int32) (Ra Ya Ia Ua Ka Ga Ma : Addr) (Da : Int32) (Aa : Value) (h0 : Heap) (n0 : Nat) (v : Option Value) (h : Heap) (L : List Loc) : Prop := ∃ (b : Addr) (k : ClassId), v = none ∧ Fr n0 L ∧ Old Z n0 h ∧ Keep h0 h [a1] ∧ n0 ≤ b ∧ h0.size ≤ b ∧ Exa Z h a1 "java/lang/String" ∧ Fld Z h a1 "java/lang/String" "coder" "B" (.int 1) ∧ Fld Z h a1 "java/lang/String" "value" "[B" (.ref b) ∧ Arv Z h b k .byte (4 : Int32) [(.int (((b0 &&& (255 : Int32)) >>> ((0 : Int32) &&& 31)).toInt8.toInt32)), (.int (((b0 &&& (255 : Int32)) >>> ((8 : Int32) &&& 31)).toInt8.toInt32)), (.int ((((((b1 <<< ((6 : Int32) &&& 31)) ^^^ b2) ^^^ (3968 : Int32)).toUInt32.toUInt16.toUInt32.toInt32) >>> ((0 : Int32) &&& 31)).toInt8.toInt32)), (.int ((((((b1 <<< ((6 : Int32) &&& 31)) ^^^ b2) ^^^ (3968 : Int32)).toUInt32.toUInt16.toUInt32.toInt32) >>> ((8 : Int32) &&& 31)).toInt8.toInt32))] (.int 0)
theorem U7a (l : Launch) (Z : State) (a0 : Array Value) (hw : ∀ d ∈ tables_1, d.before a0 Z = true) (ws : List Jvm.Cond) (a1 t0 : Addr) (k0 : ClassId) (b0 b1 b2 : Int32) (Ra Ya Ia Ua Ka Ga Ma : Addr) (Da : Int32) (Aa : Value) (h0 : Heap) (n0 : Nat) (O0 : Old Z n0 h0) (hE : EV Z Ra Ya Ia Ua Ka Ga Ma Da Aa) (P0 : Exa Z h0 a1 "java/lang/String") (P1 : Fld Z h0 a1 "java/lang/String" "value" "[B" .null) (P2 : Fld Z h0 a1 "java/lang/String" "coder" "B" (.int 0)) (P3 : Arv Z h0 t0 k0 .byte (3 : Int32) [(.int b0), (.int b1), (.int b2)] (.int 0)) (P4 : Exa Z h0 t0 "[B") (g_a1 : n0 ≤ a1) (na : ¬ (t0 = a1)) (m0 : ¬ (b0 < (0 : Int32))) (m1 : b1 < (0 : Int32)) (m2 : ¬ ((b1 &&& (254 : Int32)) = (194 : Int32))) (m3 : (b1 >>> ((5 : Int32) &&& 31)) = (-2 : Int32)) (m4 : ¬ ((b1 &&& (30 : Int32)) = (0 : Int32))) (m5 : (b2 &&& (192 : Int32)) = (128 : Int32)) :
   MetFree l Wr (head1 (Jvm.Cond.codeWith Wr jdk_42_method_11_code 11 none [((800 : Nat), (813 : Nat), (816 : Nat), (202 : Nat))] :: ws) (Hb 5 3 13 76)) (fun a U => a = #[(.ref a1), (.ref Ga), (.ref t0), (.int 0), (.int 3)] ∧ Z.Warmed39 U.vm ∧ U.heap = h0) (fun _ _ _ _ _ => True) (fun _ U o U' => ∃ v L, o = .returned v ∧ U3a Z a1 t0 k0 b0 b1 b2 Ra Ya Ia Ua Ka Ga Ma Da Aa h0 n0 v U'.heap L ∧ FrameEnd U o U' L (Hb 5 3 13 76).cells (Hb 5 3 13 76).slots) := by
 refine MetFree.of_bodySF (plainFor_of_name Mb) hisWith ?_
 intro p e s m args below meth c s₁ Bd hml0 hP hK
 obtain ⟨rfl, hZ, hh⟩ := hP
 have hx := Bd.exec
 have hby := Bd.bytes
 have hml : c.maxLocals = 11 := hml0
 have hown : s.vm.findClass "java/lang/String" = some m.cls := findClass_of_methodNamed Bd.named
 have hnm := (name_of_methodNamed Bd.named Bd.method).1
 have X00 : Stand p l e (Hb 5 3 13 76) s m #[(.ref a1), (.ref Ga), (.ref t0), (.int 0), (.int 3)] below meth c s₁ [] 0 0 := Stand.of_body Bd
 have e00 : s₁.heap = h0 := by rw [← hh, Bd.state]; rfl
 have N00 := Fr.nil n0
 refine Classical.byContradiction fun hNG => ?_
 have K00 := Keep.refl h0 [a1]
 have k00 : Ab p e below m s₁ #[(.ref a1), (.ref Ga), (.ref t0), (.int 0), (.int 3)] 11 s₁ 0 #[vr a1, vr Ga, vr t0, vi 0, vi 3, .unset, .unset, .unset, .unset, .unset, .unset] [] := fun t k => castTop (Z8 m a1 Ga t0 (0 : Int32) (3 : Int32) ) k
 obtain ⟨_, _, _, _, _, _, _, _, _, _, _, _, Po, _, Vc, Mc, _, _, _, _, _, eq_UTF_8_INSTANCE⟩ := id hE
 obtain ⟨T10, X10, e10, st10⟩ := initO X00 hx hZ hown (Ba hw 64 rfl) (Ba hw 26 rfl) (Ba hw 27 rfl) e00 (g := (mkF m 1 #[vr a1, vr Ga, vr t0, vi 0, vi 3, .unset, .unset, .unset, .unset, .unset, .unset] [(.ref a1)])) rfl (by rw [hml]; rfl) rfl (hb hby Lk) (by decide) (W := 0) (by show 2 * 0 + _ ≤ _; exact Nat.le_of_eq rfl) (by decide)
 obtain ⟨T11, X11, e11, st11⟩ := getS2 X10 hx hZ hown (host := "") (Or.inl (Ba hw 65 rfl)) Via.refl e10 (Po.ext O0.2) (g := (mkF m 31 #[vr a1, vr Ga, vr t0, vi 0, vi 3, .unset, .unset, .unset, .unset, .unset, .unset] [(.ref Ga)])) rfl (hb hby Vi)
 obtain ⟨T12, X12, e12, st12⟩ := getS2 X11 hx hZ hown (host := "") (Or.inl (Ba hw 67 rfl)) Via.refl e11 (Vc.ext O0.2) (g := (mkF m 37 #[vr a1, vr Ga, vr t0, vi 0, vi 3, .unset, .unset, .unset, .unset, .unset, .unset] [])) rfl (hb hby Yi)
 obtain ⟨v13, T13, Lc13, X13, hQ13, st13⟩ := Ub X12 hx hZ hown (Wxa l Z a0 hw [] t0 k0 b0 b1 b2 _ _ _ _ _ _ _ _ _ h0 n0 O0 hE P3 m0 m1) (Ba hw 68 rfl) (Ba hw 69 rfl) (Ba hw 70 rfl) (Ba hw 71 rfl) e12 (g := (mkF m 47 #[vr a1, vr Ga, vr t0, vi 0, vi 3, .unset, .unset, .unset, .unset, .unset, .unset] [(.int 3), (.int 0), (.ref t0)])) rfl (by rw [hml]; rfl) (argsL := [(.ref t0), (.int 0), (.int 3)]) (rest := []) rfl (lenOf Bba rfl) rfl (W := 0) (by show 2 * 0 + _ ≤ _; exact Nat.le_of_eq rfl) (hb hby Gj) (by decide) (by decide) (by decide) (by decide) (by decide)
 obtain ⟨rfl, N13q, hp13⟩ := hQ13
 have N13 := Fr.app N00 N13q
 obtain ⟨v14, T14, Lc14, X14, hQ14, st14⟩ := Ub X13 hx hZ hown (B1a l Z a0 hw [] t0 k0 b0 b1 b2 _ _ _ _ _ _ _ _ _ h0 n0 O0 hE P3 P4 ) (Ba hw 72 rfl) (Ba hw 73 rfl) (Ba hw 74 rfl) (Ba hw 75 rfl) hp13 (g := (mkF m 84 #[vr a1, vr Ga, vr t0, vi 0, vi 3, vi 1, .unset, .unset, .unset, .unset, .unset] [(.int 3), (.int 0), (.ref t0)])) rfl (by rw [hml]; rfl) (argsL := [(.ref t0), (.int 0), (.int 3)]) (rest := []) rfl (lenOf A9 rfl) rfl (W := 0) (by show 2 * 0 + _ ≤ _; exact Nat.le_of_eq rfl) (hb hby Wn) (by decide) (by decide) (by decide) (by decide) (by decide)
 obtain ⟨b14, k14, rfl, N14q, O14, Kc14, g_b14, gs_b14, F14_0⟩ := hQ14
 have N14 := Fr.app N13 N14q
 have K14 := K00.trans Kc14 (fun x hx => nomatch hx)
 have s_b14 := Nat.le_trans K00.1 gs_b14
 have lt_b14 := F14_0.lt
 obtain ⟨cl15, Ar15, q15, Sz15, Nn15, Hs15, Gf15⟩ := id F14_0
 have hin16 := inb_of (j := 1) Sz15 ⟨by decide, by decide⟩
 have hat17 : cl15.slots[((1 : Int32)).toNatClampNeg]? = some (.int b1) := Hs15.at hin16 rfl
 obtain ⟨v18, T18, Lc18, X18, hQ18, st18⟩ := Ub X14 hx hZ hown (R1a l Z a0 hw []  _ _ _ _ _ _ _ _ _ T14.heap n0 O14 hE  ) (Ba hw 85 rfl) (Ba hw 86 rfl) (Ba hw 87 rfl) (Ba hw 88 rfl) rfl (g := (mkF m 228 #[vr a1, vr Ga, vr t0, vi 0, vi 3, vi 1, vr b14, vi 1, vi b1, .unset, .unset] [(.int 3)])) rfl (by rw [hml]; rfl) (argsL := [(.int 3)]) (rest := []) rfl (lenOf Aca rfl) rfl (W := 0) (by show 2 * 0 + _ ≤ _; exact Nat.le_of_eq rfl) (hb hby Dq) (by decide) (by decide) (by decide) (by decide) (by decide)
 obtain ⟨b18, k18, rfl, N18q, O18, Kc18, g_b18, gs_b18, F18_0, F18_1⟩ := hQ18
 have N18 := Fr.app N14 N18q
 have K18 := K14.trans Kc18 (fun x hx => nomatch hx)
 have s_b18 := Nat.le_trans K14.1 gs_b18
 have lt_b18 := F18_0.lt
 have ne19 : ¬ (b14 = b18) := (Nat.ne_of_lt (Nat.lt_of_lt_of_le lt_b14 gs_b18))
 have f20 := (F14_0.keep Kc18 List.not_mem_nil)
 obtain ⟨v21, T21, Lc21, X21, hQ21, st21⟩ := Ub X18 hx hZ hown (A2a l Z a0 hw [] b14 b18 k14 k18 b0 b1 b2 _ _ _ _ _ _ _ _ _ T18.heap n0 O18 hE f20 F18_0 g_b18 ne19) (Ba hw 93 rfl) (Ba hw 94 rfl) (Ba hw 95 rfl) (Ba hw 96 rfl) rfl (g := (mkF m 241 #[vr a1, vr Ga, vr t0, vi 0, vi 3, vi 1, vr b14, vi 1, vr b18, .unset, .unset] [(.int 1), (.int 0), (.ref b18), (.int 0), (.ref b14)])) rfl (by rw [hml]; rfl) (argsL := [(.ref b14), (.int 0), (.ref b18), (.int 0), (.int 1)]) (rest := []) rfl (lenOf Uz rfl) rfl (W := 0) (by show 2 * 0 + _ ≤ _; exact Nat.le_of_eq rfl) (hb hby Pq) (by decide) (by decide) (by decide) (by decide) (by decide)
 obtain ⟨rfl, N21q, O21, Kc21, F21_0⟩ := hQ21
 have N21 := Fr.app N18 N21q
 have K21 := K18.trans Kc21 (allS (Or.inr s_b18) all0)
 have f22 := (f20.keep Kc21 (fun q => ne19 (List.mem_singleton.mp q)))
 obtain ⟨v23, T23, Lc23, X23, hQ23, st23⟩ := Ub X21 hx hZ hown (L7a l Z a0 hw [] b14 b18 k14 k18 b0 b1 b2 (((b0 &&& (255 : Int32)) >>> ((0 : Int32) &&& 31)).toInt8.toInt32) (((b0 &&& (255 : Int32)) >>> ((8 : Int32) &&& 31)).toInt8.toInt32) (0 : Int32) (0 : Int32) (0 : Int32) (0 : Int32) _ _ _ _ _ _ _ _ _ T21.heap n0 O21 hE f22 F21_0 g_b18 ne19 m0 m1 m2 m3 m4 m5 ) (Ba hw 120 rfl) (Ba hw 121 rfl) (Ba hw 29 rfl) (Ba hw 122 rfl) rfl (g := (mkF m 255 #[vr a1, vr Ga, vr t0, vi 0, vi 3, vi 1, vr b14, vi 1, vr b18, .unset, .unset] [(.int 1), (.int 1), (.ref b18), (.int 3), (.int 1), (.ref b14)])) rfl (by rw [hml]; rfl) (argsL := [(.ref b14), (.int 1), (.int 3), (.ref b18), (.int 1), (.int 1)]) (rest := []) rfl (lenOf Dba rfl) rfl (W := 0) (by show 2 * 0 + _ ≤ _; exact Nat.le_of_eq rfl) (hb hby Ar) (by decide) (by decide) (by decide) (by decide) (by decide)
 obtain ⟨rfl, N23q, O23, Kc23, F23_0⟩ := hQ23
 have N23 := Fr.app N21 N23q
 have K23 := K21.trans Kc23 (allS (Or.inr s_b18) all0)
 obtain ⟨v24, T24, Lc24, X24, hQ24, st24⟩ := Ub X23 hx hZ hown (G7a l Z a0 hw [] b18 k18 (((b0 &&& (255 : Int32)) >>> ((0 : Int32) &&& 31)).toInt8.toInt32) (((b0 &&& (255 : Int32)) >>> ((8 : Int32) &&& 31)).toInt8.toInt32) ((((((b1 <<< ((6 : Int32) &&& 31)) ^^^ b2) ^^^ (3968 : Int32)).toUInt32.toUInt16.toUInt32.toInt32) >>> ((0 : Int32) &&& 31)).toInt8.toInt32) ((((((b1 <<< ((6 : Int32) &&& 31)) ^^^ b2) ^^^ (3968 : Int32)).toUInt32.toUInt16.toUInt32.toInt32) >>> ((8 : Int32) &&& 31)).toInt8.toInt32) (0 : Int32) (0 : Int32) _ _ _ _ _ _ _ _ _ T23.heap n0 O23 hE F23_0 ) (Ba hw 145 rfl) (Ba hw 146 rfl) (Ba hw 74 rfl) (Ba hw 147 rfl) rfl (g := (mkF m 273 #[vr a1, vr Ga, vr t0, vi 0, vi 3, vi 2, vr b14, vi 1, vr b18, .unset, .unset] [(.int 4), (.ref b18)])) rfl (by rw [hml]; rfl) (argsL := [(.ref b18), (.int 4)]) (rest := []) rfl (lenOf Yua rfl) rfl (W := 0) (by show 2 * 0 + _ ≤ _; exact Nat.le_of_eq rfl) (hb hby Dx) (by decide) (by decide) (by decide) (by decide) (by decide)
 obtain ⟨b24, k24, rfl, N24q, O24, Kc24, g_b24, gs_b24, F24_0⟩ := hQ24
 have N24 := Fr.app N23 N24q
 have K24 := K23.trans Kc24 (fun x hx => nomatch hx)
 have s_b24 := Nat.le_trans K23.1 gs_b24
 have lt_b24 := F24_0.lt
 have f25 := (((((P0.keep Kc14).keep Kc18).keep Kc21).keep Kc23).keep Kc24)
 have ne26 : ¬ (a1 = b18) := (Nat.ne_of_lt (Nat.lt_of_lt_of_le (Nat.lt_of_lt_of_le P0.lt Kc14.1) gs_b18))
 have f27 := (((((P1.keep Kc14 List.not_mem_nil).keep Kc18 List.not_mem_nil).keep Kc21 (fun q => ne26 (List.mem_singleton.mp q))).keep Kc23 (fun q => ne26 (List.mem_singleton.mp q))).keep Kc24 List.not_mem_nil)
 obtain ⟨T28, h28, X28, e28, W28, st28⟩ := putF X24 hx hZ hown (host := "") (Or.inl (Ba hw 156 rfl)) Via.refl rfl f27 f25 (Or.inr ⟨(Ba hw 31 rfl), rfl, hnm⟩) (Ba hw 30 rfl) (ty := (.array .byte)) (by decide) rfl rfl (g := (mkF m 281 #[vr a1, vr Ga, vr t0, vi 0, vi 3, vi 2, vr b14, vi 1, vr b24, .unset, .unset] [(.ref b24), (.ref a1)])) rfl rfl (hb hby Lr)
 have F28_value := f27.same W28
 have N28 := Fr.snoc X28 N24 g_a1
 have O28 := O24.wr W28 g_a1
 have K28 := K24.wr W28 (Or.inl (List.mem_of_getElem? (i := 0) rfl))
 have f29 := (f25.wr W28)
 have f30 := ((((((P2.keep Kc14 List.not_mem_nil).keep Kc18 List.not_mem_nil).keep Kc21 (fun q => ne26 (List.mem_singleton.mp q))).keep Kc23 (fun q => ne26 (List.mem_singleton.mp q))).keep Kc24 List.not_mem_nil).other W28 (Or.inr (slot_ne (Or.inr (Ba hw 32 rfl)) (Or.inr (Ba hw 31 rfl)) (by decide) (t := .byte) (t' := (.array .byte)) (by decide) (by decide))))
 obtain ⟨T31, h31, X31, e31, W31, st31⟩ := putFN X28 hx hZ hown (Ba hw 157 rfl) Via.refl e28 f30 f29 (Or.inr ⟨(Ba hw 32 rfl), rfl, hnm⟩) (Ba hw 30 rfl) (ty := .byte) (v' := .int (1 : Int32)) (by decide) rfl (by decide) (g := (mkF m 286 #[vr a1, vr Ga, vr t0, vi 0, vi 3, vi 2, vr b14, vi 1, vr b24, .unset, .unset] [(.int 1), (.ref a1)])) rfl rfl (hb hby Rr)
 have F31_coder := f30.same W31
 have N31 := Fr.snoc X31 N28 g_a1
 have O31 := O28.wr W31 g_a1
 have K31 := K28.wr W31 (Or.inl (List.mem_of_getElem? (i := 0) rfl))
 have k32 : Ab p e below m s₁ #[(.ref a1), (.ref Ga), (.ref t0), (.int 0), (.int 3)] 11 T31 879 #[vr a1, vr Ga, vr t0, vi 0, vi 3, vi 2, vr b14, vi 1, vr b24, .unset, .unset] [] := by
  intro t k
  refine k00 t ?_
  refine Va X00 hx hby Kk rfl rfl ?_
  refine st10 _ ?_
  refine Wa X10 hx hby Mk rfl ?_
  refine XS.ifYes X10.here hx rfl (pc0 := 6) (pc' := 30) rfl (hb hby Pk) rfl ((if0 _ _).trans (feq (by decide : ¬ ((3 : Int32) = (0 : Int32)))).2) (by decide) (by decide) ?_
  refine Va X10 hx hby Ui rfl rfl ?_
  refine st11 _ ?_
  refine Jvm.RoadKit.acmp (g := (mkF m 34 #[vr a1, vr Ga, vr t0, vi 0, vi 3, .unset, .unset, .unset, .unset, .unset, .unset] [(.ref Ma), (.ref Ga)])) X11 hx rfl rfl rfl (pc0 := 34) (pc' := 37) (same := true) rfl (hb hby Wi) rfl (decide_eq_true (congrArg Value.ref eq_UTF_8_INSTANCE)) (by decide) (by decide) ?_
  refine st12 _ ?_
  refine XS.ifNo X12.here hx rfl (hb hby Zi) rfl ((if0 _ _).trans (feq Mc).1) ?_
  refine Va X12 hx hby Aj rfl rfl ?_
  refine Pa X12 hx hby Bj rfl ?_
  refine Wa X12 hx hby Dj rfl ?_
  show Za p e below m T12 47 #[vr a1, vr Ga, vr t0, vi 0, vi 3, .unset, .unset, .unset, .unset, .unset, .unset] [(.int 3), (.int 0), (.ref t0)] t
  refine st13 _ ?_
  refine XS.istore X13.here hx rfl (hb hby Hj) rfl (l' := #[vr a1, vr Ga, vr t0, vi 0, vi 3, vi 1, .unset, .unset, .unset, .unset, .unset]) rfl ?_
  refine Wa X13 hx hby Ij rfl ?_
  refine Wa X13 hx hby Kj rfl ?_
  refine XS.icmpYes X13.here hx rfl (pc0 := 56) (pc' := 78) rfl (hb hby Lj) rfl (feq (by decide : ¬ ((1 : Int32) = (3 : Int32)))).2 (by decide) (by decide) ?_
  refine Va X13 hx hby Mn rfl rfl ?_
  refine Pa X13 hx hby Pn rfl ?_
  refine Pa X13 hx hby Rn rfl ?_
  refine Wa X13 hx hby Un rfl ?_
  refine XS.iadd X13.here hx rfl (hb hby Vn) rfl ?_
  show Za p e below m T13 84 #[vr a1, vr Ga, vr t0, vi 0, vi 3, vi 1, .unset, .unset, .unset, .unset, .unset] [(.int ((0 : Int32) + (3 : Int32))), (.int 0), (.ref t0)] t
  rw [Iza]
  refine st14 _ ?_
  refine XS.astore X14.here hx rfl (hb hby Yn) rfl rfl (l' := #[vr a1, vr Ga, vr t0, vi 0, vi 3, vi 1, vr b14, .unset, .unset, .unset, .unset]) rfl ?_
  refine Wa X14 hx hby Zn rfl ?_
  refine XS.istore X14.here hx rfl (hb hby Ao) rfl (l' := #[vr a1, vr Ga, vr t0, vi 0, vi 3, vi 1, vr b14, vi 1, .unset, .unset, .unset]) rfl ?_
  refine Wa X14 hx hby Bk rfl ?_
  refine Wa X14 hx hby Dk rfl ?_
  refine XS.icmpNo X14.here hx rfl (hb hby Gk) rfl (tlt (by decide : (1 : Int32) < (3 : Int32))).2.1 ?_
  refine Dd X14 hx hby Gl rfl rfl ?_
  refine Wa X14 hx hby Hl rfl ?_
  refine XS.iinc X14.here hx rfl (hb hby Il) rfl (l' := #[vr a1, vr Ga, vr t0, vi 0, vi 3, vi 1, vr b14, vi ((1 : Int32) + (1 : Int32)), .unset, .unset, .unset]) rfl ?_
  rw [Hm]
  refine X14.baloadBytes hx (j := 1) (v := (.int b1)) (by exact Ar15.1) (State.isArrayOf_alike hZ.alike Ar15.2.1) Ar15.2.2 hin16 hat17 (g := (mkF m 107 #[vr a1, vr Ga, vr t0, vi 0, vi 3, vi 1, vr b14, vi 2, .unset, .unset, .unset] [(.int 1), (.ref b14)])) rfl rfl (hb hby Kl) _ ?_
  show Za p e below m T14 108 #[vr a1, vr Ga, vr t0, vi 0, vi 3, vi 1, vr b14, vi 2, .unset, .unset, .unset] [(.int b1)] t
  refine XS.istore X14.here hx rfl (hb hby Ll) rfl (l' := #[vr a1, vr Ga, vr t0, vi 0, vi 3, vi 1, vr b14, vi 2, vi b1, .unset, .unset]) rfl ?_
  refine Wa X14 hx hby Ml rfl ?_
  refine XS.ifYes X14.here hx rfl (pc0 := 112) (pc' := 129) rfl (hb hby Pl) rfl ((if0 _ _).trans (tlt m1).1) (by decide) (by decide) ?_
  refine Wa X14 hx hby Rl rfl ?_
  refine XS.sipush X14.here hx rfl (hb hby Ul) ?_
  refine XS.iand X14.here hx rfl (hb hby Vl) rfl ?_
  refine XS.sipush X14.here hx rfl (hb hby Wl) ?_
  refine XS.icmpYes X14.here hx rfl (pc0 := 138) (pc' := 184) rfl (hb hby Yl) rfl (feq m2).2 (by decide) (by decide) ?_
  refine XS.iinc X14.here hx rfl (hb hby Zp) rfl (l' := #[vr a1, vr Ga, vr t0, vi 0, vi 3, vi 1, vr b14, vi ((2 : Int32) + (-1 : Int32)), vi b1, .unset, .unset]) rfl ?_
  rw [Mza]
  refine XS.goto X14.here hx rfl (pc0 := 187) (pc' := 190) rfl (hb hby Aq) (by decide) (by decide) ?_
  refine Wa X14 hx hby Zl rfl ?_
  refine Wa X14 hx hby Am rfl ?_
  show Za p e below m T14 194 #[vr a1, vr Ga, vr t0, vi 0, vi 3, vi 1, vr b14, vi 1, vi b1, .unset, .unset] [(.int 3), (.int 1)] t
  refine XS.icmpYes X14.here hx rfl (pc0 := 194) (pc' := 226) rfl (hb hby Bm) rfl (feq (by decide : ¬ ((1 : Int32) = (3 : Int32)))).2 (by decide) (by decide) ?_
  refine Wa X14 hx hby Bq rfl ?_
  refine st18 _ ?_
  refine XS.astore X18.here hx rfl (hb hby Gq) rfl rfl (l' := #[vr a1, vr Ga, vr t0, vi 0, vi 3, vi 1, vr b14, vi 1, vr b18, .unset, .unset]) rfl ?_
  refine Dd X18 hx hby Hq rfl rfl ?_
  refine XS.iconst X18.here hx rfl (hb hby Iq) ?_
  refine Dd X18 hx hby Kq rfl rfl ?_
  refine XS.iconst X18.here hx rfl (hb hby Lq) ?_
  refine Wa X18 hx hby Mq rfl ?_
  refine st21 _ ?_
  refine Dd X21 hx hby Rq rfl rfl ?_
  refine Wa X21 hx hby Uq rfl ?_
  show Za p e below m T21 248 #[vr a1, vr Ga, vr t0, vi 0, vi 3, vi 1, vr b14, vi 1, vr b18, .unset, .unset] [(.int 1), (.ref b14)] t
  refine Wa X21 hx hby Vq rfl ?_
  refine Dd X21 hx hby Wq rfl rfl ?_
  refine Wa X21 hx hby Yq rfl ?_
  refine XS.iconst X21.here hx rfl (hb hby Zq) ?_
  refine st23 _ ?_
  refine XS.istore X23.here hx rfl (hb hby Br) rfl (l' := #[vr a1, vr Ga, vr t0, vi 0, vi 3, vi 2, vr b14, vi 1, vr b18, .unset, .unset]) rfl ?_
  refine Wa X23 hx hby Dr rfl ?_
  refine Wa X23 hx hby Gr rfl ?_
  refine XS.icmpNo X23.here hx rfl (hb hby Hr) rfl (feq (by decide : ¬ ((2 : Int32) = (3 : Int32)))).1 ?_
  refine Dd X23 hx hby Yw rfl rfl ?_
  refine Wa X23 hx hby Zw rfl ?_
  refine XS.iconst X23.here hx rfl (hb hby Ax) ?_
  show Za p e below m T23 272 #[vr a1, vr Ga, vr t0, vi 0, vi 3, vi 2, vr b14, vi 1, vr b18, .unset, .unset] [(.int 1), (.int 2), (.ref b18)] t
  refine XS.ishl X23.here hx rfl (hb hby Bx) rfl ?_
  show Za p e below m T23 273 #[vr a1, vr Ga, vr t0, vi 0, vi 3, vi 2, vr b14, vi 1, vr b18, .unset, .unset] [(.int ((2 : Int32) <<< ((1 : Int32) &&& 31))), (.ref b18)] t
  rw [Uxa]
  refine st24 _ ?_
  refine XS.astore X24.here hx rfl (hb hby Gx) rfl rfl (l' := #[vr a1, vr Ga, vr t0, vi 0, vi 3, vi 2, vr b14, vi 1, vr b24, .unset, .unset]) rfl ?_
  refine Va X24 hx hby Ir rfl rfl ?_
  refine Dd X24 hx hby Kr rfl rfl ?_
  refine st28 _ ?_
  refine Va X28 hx hby Mr rfl rfl ?_
  refine XS.iconst X28.here hx rfl (hb hby Pr) ?_
  refine st31 _ ?_
  refine XS.goto X31.here hx rfl (pc0 := 289) (pc' := 879) rfl (hb hby Ur) (by decide) (by decide) ?_
  exact k
 have f33 := (f29.wr W31)
 have f34 := (F28_value.other W31 (Or.inr (slot_ne (Or.inr (Ba hw 31 rfl)) (Or.inr (Ba hw 32 rfl)) (by decide) (t := (.array .byte)) (t' := .byte) (by decide) (by decide))))
 have ne35 : ¬ (b24 = a1) := (Ne.symm (Nat.ne_of_lt (Nat.lt_of_lt_of_le (Nat.lt_of_lt_of_le (Nat.lt_of_lt_of_le (Nat.lt_of_lt_of_le (Nat.lt_of_lt_of_le P0.lt Kc14.1) Kc18.1) Kc21.1) Kc23.1) gs_b24)))
 have f36 := ((F24_0.other W28 ne35).other W31 ne35)
 obtain ⟨fs, hr, hrun, hended, hW, hsame⟩ := X31.leave (v := none) (fun _ => rfl)
 refine hNG ⟨_, _, k32 _ ?_, hrun, hended, _, _, rfl, ?_, ⟨_, rfl⟩, hW, hsame.mono (by decide) (by decide)⟩
 · exact X31.returnOut hx Bd.returns (hb hby Vr) hr
 · show U3a Z a1 t0 k0 b0 b1 b2 Ra Ya Ia Ua Ka Ga Ma Da Aa h0 n0 _ T31.heap _
   rw [e31]
   exact ⟨b24, k24, rfl, N31, O31, K31, g_b24, s_b24, f33, F31_coder, f34, f36⟩
theorem V7a (l : Launch) (Z : State) (a0 : Array Value) (hw : Pb a0 Z) (ws : List Jvm.Cond) (a1 t0 : Addr) (k0 : ClassId) (b0 b1 b2 : Int32) (Ra Ya Ia Ua Ka Ga Ma : Addr) (Da : Int32) (Aa : Value) (h0 : Heap) (n0 : Nat) (O0 : Old Z n0 h0) (hE : EV Z Ra Ya Ia Ua Ka Ga Ma Da Aa) (P0 : Exa Z h0 a1 "java/lang/String") (P1 : Fld Z h0 a1 "java/lang/String" "value" "[B" .null) (P2 : Fld Z h0 a1 "java/lang/String" "coder" "B" (.int 0)) (P3 : Arv Z h0 t0 k0 .byte (3 : Int32) [(.int b0), (.int b1), (.int b2)] (.int 0)) (P4 : Exa Z h0 t0 "[B") (g_a1 : n0 ≤ a1) (na : ¬ (t0 = a1)) (m0 : ¬ (b0 < (0 : Int32))) (m1 : b1 < (0 : Int32)) (m2 : ¬ ((b1 &&& (254 : Int32)) = (194 : Int32))) (m3 : (b1 >>> ((5 : Int32) &&& 31)) = (-2 : Int32)) (m4 : ¬ ((b1 &&& (30 : Int32)) = (0 : Int32))) (m5 : (b2 &&& (192 : Int32)) = (128 : Int32)) :
   Ib l G6 (Jvm.Cond.code G6 jdk_42_method_49_code 3 none :: ws) (Hb 6 3 13 98) #[(.ref a1), (.ref t0), (.ref Ga)] Z h0 (fun v h L => ∃ (b : Addr) (k : ClassId), v = none ∧ Fr n0 L ∧ Old Z n0 h ∧ Keep h0 h [a1] ∧ n0 ≤ b ∧ h0.size ≤ b ∧ Exa Z h a1 "java/lang/String" ∧ Fld Z h a1 "java/lang/String" "coder" "B" (.int 1) ∧ Fld Z h a1 "java/lang/String" "value" "[B" (.ref b) ∧ Arv Z h b k .byte (4 : Int32) [(.int (((b0 &&& (255 : Int32)) >>> ((0 : Int32) &&& 31)).toInt8.toInt32)), (.int (((b0 &&& (255 : Int32)) >>> ((8 : Int32) &&& 31)).toInt8.toInt32)), (.int ((((((b1 <<< ((6 : Int32) &&& 31)) ^^^ b2) ^^^ (3968 : Int32)).toUInt32.toUInt16.toUInt32.toInt32) >>> ((0 : Int32) &&& 31)).toInt8.toInt32)), (.int ((((((b1 <<< ((6 : Int32) &&& 31)) ^^^ b2) ^^^ (3968 : Int32)).toUInt32.toUInt16.toUInt32.toInt32) >>> ((8 : Int32) &&& 31)).toInt8.toInt32))] (.int 0)) := by
 refine Db (plainFor_of_name Mb) n0 [a1] fun p e s m below meth c s₁ hx hby hml hown hnm hret hlk X00 e00 hZ N00 K00 hNG => ?_
 have k00 : Ab p e below m s₁ #[(.ref a1), (.ref t0), (.ref Ga)] 3 s₁ 0 #[vr a1, vr t0, vr Ga] [] := fun t k => castTop (Hba m a1 t0 Ga ) k
 obtain ⟨_, _, _, _, _, _, _, _, _, _, _, G5, _⟩ := id hE
 obtain ⟨v10, T10, Lc10, X10, hQ10, st10⟩ := Ub X00 hx hZ hown (Ywa l Z a0 hw []  _ _ _ _ _ _ _ _ _ h0 n0 O0 hE ) (Ba hw 55 rfl) (Ba hw 56 rfl) (Ba hw 37 rfl) (Ba hw 57 rfl) e00 (g := (mkF m 2 #[vr a1, vr t0, vr Ga] [(.ref Ga), (.ref a1)])) rfl (by rw [hml]; rfl) (argsL := [(.ref Ga)]) (rest := [(.ref a1)]) rfl (lenOf He rfl) rfl (W := 1) (by show 2 * 0 + _ ≤ _; exact Nat.le_of_eq rfl) (hb hby Vk) (by decide) (by decide) (by decide) (by decide) (by decide)
 obtain ⟨rfl, N10q, hp10⟩ := hQ10
 have N10 := Fr.app N00 N10q
 obtain ⟨T11, X11, e11, st11⟩ := castY X10 hx hZ hown (Ba hw 58 rfl) hp10 (Ins.of_exa (G5.ext O0.2) (Ba hw 59 rfl)) (g := (mkF m 5 #[vr a1, vr t0, vr Ga] [(.ref Ga), (.ref a1)])) rfl rfl (hb hby Wk)
 obtain ⟨cl12, Ar12, q12, Sz12, Nn12, Hs12, Gf12⟩ := id P3
 obtain ⟨_, _, ⟨T13, L13, k13, n13⟩, -, X13, ⟨Lc13, hQ13, l13, y13, z13⟩, st13⟩ := X11.specialBackH hx (y := Wr) rfl hown (mvT hZ (Ba hw 60 rfl)) (mvT hZ (Ba hw 61 rfl)) (mvT hZ (Ba hw 63 rfl)) (by decide) (backOfWith (W := 0) (U7a l Z a0 hw [] a1 t0 k0 b0 b1 b2 _ _ _ _ _ _ _ _ _ h0 n0 O0 hE P0 P1 P2 P3 P4 g_a1 na m0 m1 m2 m3 m4 m5 ) hZ (Ba hw 63 rfl) (Ba hw 29 rfl) (by decide) (by decide)) (g := (mkF m 12 #[vr a1, vr t0, vr Ga] [(.int 3), (.int 0), (.ref t0), (.ref Ga), (.ref a1)])) rfl (by rw [hml]; rfl) (Steps.refl _) (a := a1) (argsL := [(.ref Ga), (.ref t0), (.int 0), (.int 3)]) (rest := []) (lenOf Ag rfl) rfl (by show 2 * 0 + _ ≤ _; exact Nat.le_of_eq rfl) (hb hby Rj) (fun _ _ => ⟨rfl, e11, (by decide : 0 + 3 ≤ _), (by decide : 0 + 13 ≤ _)⟩)
 dsimp only [Pt.U, Pt.locs, Pt.cells, Pt.slots] at X13 l13 y13 z13 st13 hQ13
 subst l13 y13 z13
 obtain ⟨b13, k13, rfl, N13q, O13, Kc13, g_b13, gs_b13, F13_0, F13_1, F13_2, F13_3⟩ := hQ13
 have N13 := Fr.app N10 N13q
 have K13 := K00.trans Kc13 (allS (Or.inl (List.mem_of_getElem? (i := 0) rfl)) all0)
 have s_b13 := Nat.le_trans K00.1 gs_b13
 have lt_b13 := F13_3.lt
 have k14 : Ab p e below m s₁ #[(.ref a1), (.ref t0), (.ref Ga)] 3 T13 15 #[vr a1, vr t0, vr Ga] [] := by
  intro t k
  refine k00 t ?_
  refine Va X00 hx hby Rk rfl rfl ?_
  refine Va X00 hx hby Uk rfl rfl ?_
  refine st10 _ ?_
  refine st11 _ ?_
  refine Va X11 hx hby Yk rfl rfl ?_
  refine XS.iconst X11.here hx rfl (hb hby Zk) ?_
  refine Va X11 hx hby Mj rfl rfl ?_
  refine X11.arraylength hx (by rw [e11]; exact Ar12.1) (State.isArrayOf_alike hZ.alike Ar12.2.1) (g := (mkF m 11 #[vr a1, vr t0, vr Ga] [(.ref t0), (.int 0), (.ref t0), (.ref Ga), (.ref a1)])) rfl rfl (hb hby Pj) _ ?_
  rw [len_of Sz12 Nn12]
  refine st13.trans ?_
  exact k
 exact Yg hNG hlk X13 rfl (by decide) (by decide) (fun fs hr => k14 _ (X13.returnOut hx hret (hb hby Uj) hr)) ⟨b13, k13, rfl, N13, O13, K13, g_b13, s_b13, F13_0, F13_1, F13_2, F13_3⟩
theorem W7a (l : Launch) (Z : State) (a0 : Array Value) (hw : Pb a0 Z) (ws : List Jvm.Cond) (u0 t0 : Addr) (k0 : ClassId) (b0 b1 b2 : Int32) (Ra Ya Ia Ua Ka Ga Ma : Addr) (Da : Int32) (Aa : Value) (h0 : Heap) (n0 : Nat) (O0 : Old Z n0 h0) (hE : EV Z Ra Ya Ia Ua Ka Ga Ma Da Aa) (P0 : Fld Z h0 u0 "com/example/attenuation/attenuation/core/Outcome" "body" "[B" (.ref t0)) (P1 : Exa Z h0 u0 "com/example/attenuation/attenuation/core/Outcome") (P2 : Arv Z h0 t0 k0 .byte (3 : Int32) [(.int b0), (.int b1), (.int b2)] (.int 0)) (P3 : Exa Z h0 t0 "[B") (m0 : ¬ (b0 < (0 : Int32))) (m1 : b1 < (0 : Int32)) (m2 : ¬ ((b1 &&& (254 : Int32)) = (194 : Int32))) (m3 : (b1 >>> ((5 : Int32) &&& 31)) = (-2 : Int32)) (m4 : ¬ ((b1 &&& (30 : Int32)) = (0 : Int32))) (m5 : (b2 &&& (192 : Int32)) = (128 : Int32)) :
   Ib l H6 (Jvm.Cond.code H6 prog_16_method_10_code 1 (some (.object "java/lang/String")) :: ws) (Hb 7 4 17 113) #[(.ref u0)] Z h0 (fun v h L => ∃ (s : Addr) (b : Addr) (k : ClassId), v = some (.ref s) ∧ Fr n0 L ∧ Old Z n0 h ∧ Keep h0 h [] ∧ n0 ≤ s ∧ h0.size ≤ s ∧ n0 ≤ b ∧ h0.size ≤ b ∧ ¬ (s = b) ∧ Exa Z h s "java/lang/String" ∧ Fld Z h s "java/lang/String" "coder" "B" (.int 1) ∧ Fld Z h s "java/lang/String" "value" "[B" (.ref b) ∧ Arv Z h b k .byte (4 : Int32) [(.int (((b0 &&& (255 : Int32)) >>> ((0 : Int32) &&& 31)).toInt8.toInt32)), (.int (((b0 &&& (255 : Int32)) >>> ((8 : Int32) &&& 31)).toInt8.toInt32)), (.int ((((((b1 <<< ((6 : Int32) &&& 31)) ^^^ b2) ^^^ (3968 : Int32)).toUInt32.toUInt16.toUInt32.toInt32) >>> ((0 : Int32) &&& 31)).toInt8.toInt32)), (.int ((((((b1 <<< ((6 : Int32) &&& 31)) ^^^ b2) ^^^ (3968 : Int32)).toUInt32.toUInt16.toUInt32.toInt32) >>> ((8 : Int32) &&& 31)).toInt8.toInt32))] (.int 0)) := by
 refine Db (plainFor_of_name Gd) n0 [] fun p e s m below meth c s₁ hx hby hml hown hnm hret hlk X00 e00 hZ N00 K00 hNG => ?_
 have k00 : Ab p e below m s₁ #[(.ref u0)] 1 s₁ 0 #[vr u0] [] := fun t k => castTop (Aba m u0 ) k
 obtain ⟨_, _, _, _, _, _, _, _, _, _, H5, _⟩ := id hE
 obtain ⟨T10, h10, X10, e10, E10, A10, D10, -, st10⟩ := newO X00 hx hZ hown (Ba hw 49 rfl) (Ba hw 30 rfl) (Ba hw 29 rfl) e00 (g := (mkF m 0 #[vr u0] [])) rfl (hb hby Vj) (by decide) (by decide)
 obtain ⟨b10, g10⟩ : ∃ z, z = h0.size := ⟨_, rfl⟩
 rw [← g10] at A10 D10 st10
 have O10 := O0.ext E10
 have g_b10 : n0 ≤ b10 := Nat.le_trans (Nat.le_of_eq O0.1.symm) (Nat.le_trans O0.2.1 (Nat.le_of_eq g10.symm))
 have s_b10 : h0.size ≤ b10 := Nat.le_trans K00.1 (Nat.le_of_eq g10.symm)
 have K10 := K00.ext E10
 have lt_b10 := A10.lt
 have F10_value : Fld Z h10 b10 "java/lang/String" "value" "[B" .null := D10 (Or.inr (Ba hw 31 rfl)) (ty := (.array .byte)) (by decide)
 have F10_coder : Fld Z h10 b10 "java/lang/String" "coder" "B" (.int 0) := D10 (Or.inr (Ba hw 32 rfl)) (ty := .byte) (by decide)
 have f11 := (P0.ext E10)
 obtain ⟨T12, X12, e12, st12⟩ := getF X10 hx hZ hown (host := "") (Or.inl (Ba hw 42 rfl)) Via.refl e10 f11 (g := (mkF m 5 #[vr u0] [(.ref u0), (.ref b10), (.ref b10)])) rfl rfl (hb hby Zj)
 obtain ⟨T13, X13, e13, st13⟩ := getS2 X12 hx hZ hown (host := "") (Or.inl (Ba hw 50 rfl)) Via.refl e12 (H5.ext O10.2) (g := (mkF m 8 #[vr u0] [(.ref t0), (.ref b10), (.ref b10)])) rfl (hb hby Ak)
 have ne14 : ¬ (t0 = b10) := (Nat.ne_of_lt (Nat.lt_of_lt_of_le P2.lt (Nat.le_of_eq g10.symm)))
 have f15 := (P2.ext E10)
 have f16 := (P3.ext E10)
 obtain ⟨v17, T17, Lc17, X17, hQ17, st17⟩ := G1 X13 hx hZ hown (a := b10) (V7a l Z a0 hw [] b10 t0 k0 b0 b1 b2 _ _ _ _ _ _ _ _ _ h10 n0 O10 hE A10 F10_value F10_coder f15 f16 g_b10 ne14 m0 m1 m2 m3 m4 m5 ) (Ba hw 52 rfl) (Ba hw 53 rfl) (Ba hw 29 rfl) (Ba hw 54 rfl) e13 (g := (mkF m 11 #[vr u0] [(.ref Ga), (.ref t0), (.ref b10), (.ref b10)])) rfl (by rw [hml]; rfl) (argsL := [(.ref t0), (.ref Ga)]) (rest := [(.ref b10)]) rfl (lenOf Lg rfl) rfl (W := 1) (by show 2 * 0 + _ ≤ _; exact Nat.le_of_eq rfl) (hb hby Yh) (by decide) (by decide) (by decide) (by decide) rfl (by decide)
 obtain ⟨b17, k17, rfl, N17q, O17, Kc17, g_b17, gs_b17, F17_0, F17_1, F17_2, F17_3⟩ := hQ17
 have N17 := Fr.app N00 N17q
 have K17 := K10.trans Kc17 (allS (Or.inr s_b10) all0)
 have s_b17 := Nat.le_trans K10.1 gs_b17
 have lt_b17 := F17_3.lt
 have k18 : Ab p e below m s₁ #[(.ref u0)] 1 T17 14 #[vr u0] [(.ref b10)] := by
  intro t k
  refine k00 t ?_
  refine st10 _ ?_
  refine XS.dup X10.here hx rfl (hb hby Wj) rfl rfl ?_
  refine Va X10 hx hby Yj rfl rfl ?_
  refine st12 _ ?_
  refine st13 _ ?_
  refine st17 _ ?_
  exact k
 have ne19 : ¬ (b10 = b17) := (Nat.ne_of_lt (Nat.lt_of_lt_of_le lt_b10 gs_b17))
 exact Zb (.ref b10) hNG hlk hret X17 rfl (by decide) (by decide) (fun fs hr => k18 _ (retOut X17 hx (t := (.object "java/lang/String")) hret rfl (Or.inr (Or.inr (Or.inr (Or.inr ⟨rfl, rfl, rfl⟩)))) (hb hby Zh) hr)) ⟨b10, b17, k17, rfl, N17, O17, K17, g_b10, s_b10, g_b17, s_b17, ne19, F17_0, F17_1, F17_2, F17_3⟩
def A5a (Z : State) (a1 t0 : Addr) (k0 : ClassId) (b0 b1 b2 b3 : Int32) (Ra Ya Ia Ua Ka Ga Ma : Addr) (Da : Int32) (Aa : Value) (h0 : Heap) (n0 : Nat) (v : Option Value) (h : Heap) (L : List Loc) : Prop := ∃ (b : Addr) (k : ClassId), v = none ∧ Fr n0 L ∧ Old Z n0 h ∧ Keep h0 h [a1] ∧ n0 ≤ b ∧ h0.size ≤ b ∧ Exa Z h a1 "java/lang/String" ∧ Fld Z h a1 "java/lang/String" "coder" "B" (.int 1) ∧ Fld Z h a1 "java/lang/String" "value" "[B" (.ref b) ∧ Arv Z h b k .byte (4 : Int32) [(.int (((b0 &&& (255 : Int32)) >>> ((0 : Int32) &&& 31)).toInt8.toInt32)), (.int (((b0 &&& (255 : Int32)) >>> ((8 : Int32) &&& 31)).toInt8.toInt32)), (.int ((((((b1 <<< ((12 : Int32) &&& 31)) ^^^ (b2 <<< ((6 : Int32) &&& 31))) ^^^ (b3 ^^^ (-123008 : Int32))).toUInt32.toUInt16.toUInt32.toInt32) >>> ((0 : Int32) &&& 31)).toInt8.toInt32)), (.int ((((((b1 <<< ((12 : Int32) &&& 31)) ^^^ (b2 <<< ((6 : Int32) &&& 31))) ^^^ (b3 ^^^ (-123008 : Int32))).toUInt32.toUInt16.toUInt32.toInt32) >>> ((8 : Int32) &&& 31)).toInt8.toInt32))] (.int 0)
theorem Hab (l : Launch) (Z : State) (a0 : Array Value) (hw : ∀ d ∈ tables_1, d.before a0 Z = true) (ws : List Jvm.Cond) (a1 t0 : Addr) (k0 : ClassId) (b0 b1 b2 b3 : Int32) (Ra Ya Ia Ua Ka Ga Ma : Addr) (Da : Int32) (Aa : Value) (h0 : Heap) (n0 : Nat) (O0 : Old Z n0 h0) (hE : EV Z Ra Ya Ia Ua Ka Ga Ma Da Aa) (P0 : Exa Z h0 a1 "java/lang/String") (P1 : Fld Z h0 a1 "java/lang/String" "value" "[B" .null) (P2 : Fld Z h0 a1 "java/lang/String" "coder" "B" (.int 0)) (P3 : Arv Z h0 t0 k0 .byte (4 : Int32) [(.int b0), (.int b1), (.int b2), (.int b3)] (.int 0)) (P4 : Exa Z h0 t0 "[B") (g_a1 : n0 ≤ a1) (na : ¬ (t0 = a1)) (m0 : ¬ (b0 < (0 : Int32))) (m1 : b1 < (0 : Int32)) (m2 : ¬ ((b1 &&& (254 : Int32)) = (194 : Int32))) (m3 : ¬ ((b1 >>> ((5 : Int32) &&& 31)) = (-2 : Int32))) (m4 : (b1 >>> ((4 : Int32) &&& 31)) = (-2 : Int32)) (m5 : (b2 &&& (192 : Int32)) = (128 : Int32)) (m6 : (b3 &&& (192 : Int32)) = (128 : Int32)) (hov : b1 = (-32 : Int32) → ¬ ((b2 &&& (224 : Int32)) = (128 : Int32))) (hs : ¬ (((((b1 <<< ((12 : Int32) &&& 31)) ^^^ (b2 <<< ((6 : Int32) &&& 31))) ^^^ (b3 ^^^ (-123008 : Int32))).toUInt32.toUInt16.toUInt32.toInt32) < (55296 : Int32)) → ¬ (((((b1 <<< ((12 : Int32) &&& 31)) ^^^ (b2 <<< ((6 : Int32) &&& 31))) ^^^ (b3 ^^^ (-123008 : Int32))).toUInt32.toUInt16.toUInt32.toInt32) < (57344 : Int32))) :
   MetFree l Wr (head1 (Jvm.Cond.codeWith Wr jdk_42_method_11_code 11 none [((800 : Nat), (813 : Nat), (816 : Nat), (202 : Nat))] :: ws) (Hb 5 3 16 76)) (fun a U => a = #[(.ref a1), (.ref Ga), (.ref t0), (.int 0), (.int 4)] ∧ Z.Warmed39 U.vm ∧ U.heap = h0) (fun _ _ _ _ _ => True) (fun _ U o U' => ∃ v L, o = .returned v ∧ A5a Z a1 t0 k0 b0 b1 b2 b3 Ra Ya Ia Ua Ka Ga Ma Da Aa h0 n0 v U'.heap L ∧ FrameEnd U o U' L (Hb 5 3 16 76).cells (Hb 5 3 16 76).slots) := by
 refine MetFree.of_bodySF (plainFor_of_name Mb) hisWith ?_
 intro p e s m args below meth c s₁ Bd hml0 hP hK
 obtain ⟨rfl, hZ, hh⟩ := hP
 have hx := Bd.exec
 have hby := Bd.bytes
 have hml : c.maxLocals = 11 := hml0
 have hown : s.vm.findClass "java/lang/String" = some m.cls := findClass_of_methodNamed Bd.named
 have hnm := (name_of_methodNamed Bd.named Bd.method).1
 have X00 : Stand p l e (Hb 5 3 16 76) s m #[(.ref a1), (.ref Ga), (.ref t0), (.int 0), (.int 4)] below meth c s₁ [] 0 0 := Stand.of_body Bd
 have e00 : s₁.heap = h0 := by rw [← hh, Bd.state]; rfl
 have N00 := Fr.nil n0
 refine Classical.byContradiction fun hNG => ?_
 have K00 := Keep.refl h0 [a1]
 have k00 : Ab p e below m s₁ #[(.ref a1), (.ref Ga), (.ref t0), (.int 0), (.int 4)] 11 s₁ 0 #[vr a1, vr Ga, vr t0, vi 0, vi 4, .unset, .unset, .unset, .unset, .unset, .unset] [] := fun t k => castTop (Z8 m a1 Ga t0 (0 : Int32) (4 : Int32) ) k
 obtain ⟨_, _, _, _, _, _, _, _, _, _, _, _, Po, _, Vc, Mc, _, _, _, _, _, eq_UTF_8_INSTANCE⟩ := id hE
 obtain ⟨T10, X10, e10, st10⟩ := initO X00 hx hZ hown (Ba hw 64 rfl) (Ba hw 26 rfl) (Ba hw 27 rfl) e00 (g := (mkF m 1 #[vr a1, vr Ga, vr t0, vi 0, vi 4, .unset, .unset, .unset, .unset, .unset, .unset] [(.ref a1)])) rfl (by rw [hml]; rfl) rfl (hb hby Lk) (by decide) (W := 0) (by show 2 * 0 + _ ≤ _; exact Nat.le_of_eq rfl) (by decide)
 obtain ⟨T11, X11, e11, st11⟩ := getS2 X10 hx hZ hown (host := "") (Or.inl (Ba hw 65 rfl)) Via.refl e10 (Po.ext O0.2) (g := (mkF m 31 #[vr a1, vr Ga, vr t0, vi 0, vi 4, .unset, .unset, .unset, .unset, .unset, .unset] [(.ref Ga)])) rfl (hb hby Vi)
 obtain ⟨T12, X12, e12, st12⟩ := getS2 X11 hx hZ hown (host := "") (Or.inl (Ba hw 67 rfl)) Via.refl e11 (Vc.ext O0.2) (g := (mkF m 37 #[vr a1, vr Ga, vr t0, vi 0, vi 4, .unset, .unset, .unset, .unset, .unset, .unset] [])) rfl (hb hby Yi)
 obtain ⟨v13, T13, Lc13, X13, hQ13, st13⟩ := Ub X12 hx hZ hown (A7a l Z a0 hw [] t0 k0 b0 b1 b2 b3 _ _ _ _ _ _ _ _ _ h0 n0 O0 hE P3 m0 m1) (Ba hw 68 rfl) (Ba hw 69 rfl) (Ba hw 70 rfl) (Ba hw 71 rfl) e12 (g := (mkF m 47 #[vr a1, vr Ga, vr t0, vi 0, vi 4, .unset, .unset, .unset, .unset, .unset, .unset] [(.int 4), (.int 0), (.ref t0)])) rfl (by rw [hml]; rfl) (argsL := [(.ref t0), (.int 0), (.int 4)]) (rest := []) rfl (lenOf Bba rfl) rfl (W := 0) (by show 2 * 0 + _ ≤ _; exact Nat.le_of_eq rfl) (hb hby Gj) (by decide) (by decide) (by decide) (by decide) (by decide)
 obtain ⟨rfl, N13q, hp13⟩ := hQ13
 have N13 := Fr.app N00 N13q
 obtain ⟨v14, T14, Lc14, X14, hQ14, st14⟩ := Ub X13 hx hZ hown (U8a l Z a0 hw [] t0 k0 b0 b1 b2 b3 _ _ _ _ _ _ _ _ _ h0 n0 O0 hE P3 P4 ) (Ba hw 72 rfl) (Ba hw 73 rfl) (Ba hw 74 rfl) (Ba hw 75 rfl) hp13 (g := (mkF m 84 #[vr a1, vr Ga, vr t0, vi 0, vi 4, vi 1, .unset, .unset, .unset, .unset, .unset] [(.int 4), (.int 0), (.ref t0)])) rfl (by rw [hml]; rfl) (argsL := [(.ref t0), (.int 0), (.int 4)]) (rest := []) rfl (lenOf A9 rfl) rfl (W := 0) (by show 2 * 0 + _ ≤ _; exact Nat.le_of_eq rfl) (hb hby Wn) (by decide) (by decide) (by decide) (by decide) (by decide)
 obtain ⟨b14, k14, rfl, N14q, O14, Kc14, g_b14, gs_b14, F14_0⟩ := hQ14
 have N14 := Fr.app N13 N14q
 have K14 := K00.trans Kc14 (fun x hx => nomatch hx)
 have s_b14 := Nat.le_trans K00.1 gs_b14
 have lt_b14 := F14_0.lt
 obtain ⟨cl15, Ar15, q15, Sz15, Nn15, Hs15, Gf15⟩ := id F14_0
 have hin16 := inb_of (j := 1) Sz15 ⟨by decide, by decide⟩
 have hat17 : cl15.slots[((1 : Int32)).toNatClampNeg]? = some (.int b1) := Hs15.at hin16 rfl
 obtain ⟨v18, T18, Lc18, X18, hQ18, st18⟩ := Ub X14 hx hZ hown (rm_nb4 l Z a0 hw []  _ _ _ _ _ _ _ _ _ T14.heap n0 O14 hE  ) (Ba hw 85 rfl) (Ba hw 86 rfl) (Ba hw 87 rfl) (Ba hw 88 rfl) rfl (g := (mkF m 228 #[vr a1, vr Ga, vr t0, vi 0, vi 4, vi 1, vr b14, vi 1, vi b1, .unset, .unset] [(.int 4)])) rfl (by rw [hml]; rfl) (argsL := [(.int 4)]) (rest := []) rfl (lenOf Aca rfl) rfl (W := 0) (by show 2 * 0 + _ ≤ _; exact Nat.le_of_eq rfl) (hb hby Dq) (by decide) (by decide) (by decide) (by decide) (by decide)
 obtain ⟨b18, k18, rfl, N18q, O18, Kc18, g_b18, gs_b18, F18_0, F18_1⟩ := hQ18
 have N18 := Fr.app N14 N18q
 have K18 := K14.trans Kc18 (fun x hx => nomatch hx)
 have s_b18 := Nat.le_trans K14.1 gs_b18
 have lt_b18 := F18_0.lt
 have ne19 : ¬ (b14 = b18) := (Nat.ne_of_lt (Nat.lt_of_lt_of_le lt_b14 gs_b18))
 have f20 := (F14_0.keep Kc18 List.not_mem_nil)
 obtain ⟨v21, T21, Lc21, X21, hQ21, st21⟩ := Ub X18 hx hZ hown (I7a l Z a0 hw [] b14 b18 k14 k18 b0 b1 b2 b3 _ _ _ _ _ _ _ _ _ T18.heap n0 O18 hE f20 F18_0 g_b18 ne19) (Ba hw 93 rfl) (Ba hw 94 rfl) (Ba hw 95 rfl) (Ba hw 96 rfl) rfl (g := (mkF m 241 #[vr a1, vr Ga, vr t0, vi 0, vi 4, vi 1, vr b14, vi 1, vr b18, .unset, .unset] [(.int 1), (.int 0), (.ref b18), (.int 0), (.ref b14)])) rfl (by rw [hml]; rfl) (argsL := [(.ref b14), (.int 0), (.ref b18), (.int 0), (.int 1)]) (rest := []) rfl (lenOf Uz rfl) rfl (W := 0) (by show 2 * 0 + _ ≤ _; exact Nat.le_of_eq rfl) (hb hby Pq) (by decide) (by decide) (by decide) (by decide) (by decide)
 obtain ⟨rfl, N21q, O21, Kc21, F21_0⟩ := hQ21
 have N21 := Fr.app N18 N21q
 have K21 := K18.trans Kc21 (allS (Or.inr s_b18) all0)
 have f22 := (f20.keep Kc21 (fun q => ne19 (List.mem_singleton.mp q)))
 obtain ⟨v23, T23, Lc23, X23, hQ23, st23⟩ := Ub X21 hx hZ hown (W9a l Z a0 hw [] b14 b18 k14 k18 b0 b1 b2 b3 (((b0 &&& (255 : Int32)) >>> ((0 : Int32) &&& 31)).toInt8.toInt32) (((b0 &&& (255 : Int32)) >>> ((8 : Int32) &&& 31)).toInt8.toInt32) (0 : Int32) (0 : Int32) (0 : Int32) (0 : Int32) (0 : Int32) (0 : Int32) _ _ _ _ _ _ _ _ _ T21.heap n0 O21 hE f22 F21_0 g_b18 ne19 m0 m1 m2 m3 m4 m5 m6 hov hs) (Ba hw 120 rfl) (Ba hw 121 rfl) (Ba hw 29 rfl) (Ba hw 122 rfl) rfl (g := (mkF m 255 #[vr a1, vr Ga, vr t0, vi 0, vi 4, vi 1, vr b14, vi 1, vr b18, .unset, .unset] [(.int 1), (.int 1), (.ref b18), (.int 4), (.int 1), (.ref b14)])) rfl (by rw [hml]; rfl) (argsL := [(.ref b14), (.int 1), (.int 4), (.ref b18), (.int 1), (.int 1)]) (rest := []) rfl (lenOf Dba rfl) rfl (W := 0) (by show 2 * 0 + _ ≤ _; exact Nat.le_of_eq rfl) (hb hby Ar) (by decide) (by decide) (by decide) (by decide) (by decide)
 obtain ⟨rfl, N23q, O23, Kc23, F23_0⟩ := hQ23
 have N23 := Fr.app N21 N23q
 have K23 := K21.trans Kc23 (allS (Or.inr s_b18) all0)
 obtain ⟨v24, T24, Lc24, X24, hQ24, st24⟩ := Ub X23 hx hZ hown (H7a l Z a0 hw [] b18 k18 (((b0 &&& (255 : Int32)) >>> ((0 : Int32) &&& 31)).toInt8.toInt32) (((b0 &&& (255 : Int32)) >>> ((8 : Int32) &&& 31)).toInt8.toInt32) ((((((b1 <<< ((12 : Int32) &&& 31)) ^^^ (b2 <<< ((6 : Int32) &&& 31))) ^^^ (b3 ^^^ (-123008 : Int32))).toUInt32.toUInt16.toUInt32.toInt32) >>> ((0 : Int32) &&& 31)).toInt8.toInt32) ((((((b1 <<< ((12 : Int32) &&& 31)) ^^^ (b2 <<< ((6 : Int32) &&& 31))) ^^^ (b3 ^^^ (-123008 : Int32))).toUInt32.toUInt16.toUInt32.toInt32) >>> ((8 : Int32) &&& 31)).toInt8.toInt32) (0 : Int32) (0 : Int32) (0 : Int32) (0 : Int32) _ _ _ _ _ _ _ _ _ T23.heap n0 O23 hE F23_0 ) (Ba hw 145 rfl) (Ba hw 146 rfl) (Ba hw 74 rfl) (Ba hw 147 rfl) rfl (g := (mkF m 273 #[vr a1, vr Ga, vr t0, vi 0, vi 4, vi 2, vr b14, vi 1, vr b18, .unset, .unset] [(.int 4), (.ref b18)])) rfl (by rw [hml]; rfl) (argsL := [(.ref b18), (.int 4)]) (rest := []) rfl (lenOf Yua rfl) rfl (W := 0) (by show 2 * 0 + _ ≤ _; exact Nat.le_of_eq rfl) (hb hby Dx) (by decide) (by decide) (by decide) (by decide) (by decide)
 obtain ⟨b24, k24, rfl, N24q, O24, Kc24, g_b24, gs_b24, F24_0⟩ := hQ24
 have N24 := Fr.app N23 N24q
 have K24 := K23.trans Kc24 (fun x hx => nomatch hx)
 have s_b24 := Nat.le_trans K23.1 gs_b24
 have lt_b24 := F24_0.lt
 have f25 := (((((P0.keep Kc14).keep Kc18).keep Kc21).keep Kc23).keep Kc24)
 have ne26 : ¬ (a1 = b18) := (Nat.ne_of_lt (Nat.lt_of_lt_of_le (Nat.lt_of_lt_of_le P0.lt Kc14.1) gs_b18))
 have f27 := (((((P1.keep Kc14 List.not_mem_nil).keep Kc18 List.not_mem_nil).keep Kc21 (fun q => ne26 (List.mem_singleton.mp q))).keep Kc23 (fun q => ne26 (List.mem_singleton.mp q))).keep Kc24 List.not_mem_nil)
 obtain ⟨T28, h28, X28, e28, W28, st28⟩ := putF X24 hx hZ hown (host := "") (Or.inl (Ba hw 156 rfl)) Via.refl rfl f27 f25 (Or.inr ⟨(Ba hw 31 rfl), rfl, hnm⟩) (Ba hw 30 rfl) (ty := (.array .byte)) (by decide) rfl rfl (g := (mkF m 281 #[vr a1, vr Ga, vr t0, vi 0, vi 4, vi 2, vr b14, vi 1, vr b24, .unset, .unset] [(.ref b24), (.ref a1)])) rfl rfl (hb hby Lr)
 have F28_value := f27.same W28
 have N28 := Fr.snoc X28 N24 g_a1
 have O28 := O24.wr W28 g_a1
 have K28 := K24.wr W28 (Or.inl (List.mem_of_getElem? (i := 0) rfl))
 have f29 := (f25.wr W28)
 have f30 := ((((((P2.keep Kc14 List.not_mem_nil).keep Kc18 List.not_mem_nil).keep Kc21 (fun q => ne26 (List.mem_singleton.mp q))).keep Kc23 (fun q => ne26 (List.mem_singleton.mp q))).keep Kc24 List.not_mem_nil).other W28 (Or.inr (slot_ne (Or.inr (Ba hw 32 rfl)) (Or.inr (Ba hw 31 rfl)) (by decide) (t := .byte) (t' := (.array .byte)) (by decide) (by decide))))
 obtain ⟨T31, h31, X31, e31, W31, st31⟩ := putFN X28 hx hZ hown (Ba hw 157 rfl) Via.refl e28 f30 f29 (Or.inr ⟨(Ba hw 32 rfl), rfl, hnm⟩) (Ba hw 30 rfl) (ty := .byte) (v' := .int (1 : Int32)) (by decide) rfl (by decide) (g := (mkF m 286 #[vr a1, vr Ga, vr t0, vi 0, vi 4, vi 2, vr b14, vi 1, vr b24, .unset, .unset] [(.int 1), (.ref a1)])) rfl rfl (hb hby Rr)
 have F31_coder := f30.same W31
 have N31 := Fr.snoc X31 N28 g_a1
 have O31 := O28.wr W31 g_a1
 have K31 := K28.wr W31 (Or.inl (List.mem_of_getElem? (i := 0) rfl))
 have k32 : Ab p e below m s₁ #[(.ref a1), (.ref Ga), (.ref t0), (.int 0), (.int 4)] 11 T31 879 #[vr a1, vr Ga, vr t0, vi 0, vi 4, vi 2, vr b14, vi 1, vr b24, .unset, .unset] [] := by
  intro t k
  refine k00 t ?_
  refine Va X00 hx hby Kk rfl rfl ?_
  refine st10 _ ?_
  refine Wa X10 hx hby Mk rfl ?_
  refine XS.ifYes X10.here hx rfl (pc0 := 6) (pc' := 30) rfl (hb hby Pk) rfl ((if0 _ _).trans (feq (by decide : ¬ ((4 : Int32) = (0 : Int32)))).2) (by decide) (by decide) ?_
  refine Va X10 hx hby Ui rfl rfl ?_
  refine st11 _ ?_
  refine Jvm.RoadKit.acmp (g := (mkF m 34 #[vr a1, vr Ga, vr t0, vi 0, vi 4, .unset, .unset, .unset, .unset, .unset, .unset] [(.ref Ma), (.ref Ga)])) X11 hx rfl rfl rfl (pc0 := 34) (pc' := 37) (same := true) rfl (hb hby Wi) rfl (decide_eq_true (congrArg Value.ref eq_UTF_8_INSTANCE)) (by decide) (by decide) ?_
  refine st12 _ ?_
  refine XS.ifNo X12.here hx rfl (hb hby Zi) rfl ((if0 _ _).trans (feq Mc).1) ?_
  refine Va X12 hx hby Aj rfl rfl ?_
  refine Pa X12 hx hby Bj rfl ?_
  refine Wa X12 hx hby Dj rfl ?_
  show Za p e below m T12 47 #[vr a1, vr Ga, vr t0, vi 0, vi 4, .unset, .unset, .unset, .unset, .unset, .unset] [(.int 4), (.int 0), (.ref t0)] t
  refine st13 _ ?_
  refine XS.istore X13.here hx rfl (hb hby Hj) rfl (l' := #[vr a1, vr Ga, vr t0, vi 0, vi 4, vi 1, .unset, .unset, .unset, .unset, .unset]) rfl ?_
  refine Wa X13 hx hby Ij rfl ?_
  refine Wa X13 hx hby Kj rfl ?_
  refine XS.icmpYes X13.here hx rfl (pc0 := 56) (pc' := 78) rfl (hb hby Lj) rfl (feq (by decide : ¬ ((1 : Int32) = (4 : Int32)))).2 (by decide) (by decide) ?_
  refine Va X13 hx hby Mn rfl rfl ?_
  refine Pa X13 hx hby Pn rfl ?_
  refine Pa X13 hx hby Rn rfl ?_
  refine Wa X13 hx hby Un rfl ?_
  refine XS.iadd X13.here hx rfl (hb hby Vn) rfl ?_
  show Za p e below m T13 84 #[vr a1, vr Ga, vr t0, vi 0, vi 4, vi 1, .unset, .unset, .unset, .unset, .unset] [(.int ((0 : Int32) + (4 : Int32))), (.int 0), (.ref t0)] t
  rw [U2a]
  refine st14 _ ?_
  refine XS.astore X14.here hx rfl (hb hby Yn) rfl rfl (l' := #[vr a1, vr Ga, vr t0, vi 0, vi 4, vi 1, vr b14, .unset, .unset, .unset, .unset]) rfl ?_
  refine Wa X14 hx hby Zn rfl ?_
  refine XS.istore X14.here hx rfl (hb hby Ao) rfl (l' := #[vr a1, vr Ga, vr t0, vi 0, vi 4, vi 1, vr b14, vi 1, .unset, .unset, .unset]) rfl ?_
  refine Wa X14 hx hby Bk rfl ?_
  refine Wa X14 hx hby Dk rfl ?_
  refine XS.icmpNo X14.here hx rfl (hb hby Gk) rfl (tlt (by decide : (1 : Int32) < (4 : Int32))).2.1 ?_
  refine Dd X14 hx hby Gl rfl rfl ?_
  refine Wa X14 hx hby Hl rfl ?_
  refine XS.iinc X14.here hx rfl (hb hby Il) rfl (l' := #[vr a1, vr Ga, vr t0, vi 0, vi 4, vi 1, vr b14, vi ((1 : Int32) + (1 : Int32)), .unset, .unset, .unset]) rfl ?_
  rw [Hm]
  refine X14.baloadBytes hx (j := 1) (v := (.int b1)) (by exact Ar15.1) (State.isArrayOf_alike hZ.alike Ar15.2.1) Ar15.2.2 hin16 hat17 (g := (mkF m 107 #[vr a1, vr Ga, vr t0, vi 0, vi 4, vi 1, vr b14, vi 2, .unset, .unset, .unset] [(.int 1), (.ref b14)])) rfl rfl (hb hby Kl) _ ?_
  show Za p e below m T14 108 #[vr a1, vr Ga, vr t0, vi 0, vi 4, vi 1, vr b14, vi 2, .unset, .unset, .unset] [(.int b1)] t
  refine XS.istore X14.here hx rfl (hb hby Ll) rfl (l' := #[vr a1, vr Ga, vr t0, vi 0, vi 4, vi 1, vr b14, vi 2, vi b1, .unset, .unset]) rfl ?_
  refine Wa X14 hx hby Ml rfl ?_
  refine XS.ifYes X14.here hx rfl (pc0 := 112) (pc' := 129) rfl (hb hby Pl) rfl ((if0 _ _).trans (tlt m1).1) (by decide) (by decide) ?_
  refine Wa X14 hx hby Rl rfl ?_
  refine XS.sipush X14.here hx rfl (hb hby Ul) ?_
  refine XS.iand X14.here hx rfl (hb hby Vl) rfl ?_
  refine XS.sipush X14.here hx rfl (hb hby Wl) ?_
  refine XS.icmpYes X14.here hx rfl (pc0 := 138) (pc' := 184) rfl (hb hby Yl) rfl (feq m2).2 (by decide) (by decide) ?_
  refine XS.iinc X14.here hx rfl (hb hby Zp) rfl (l' := #[vr a1, vr Ga, vr t0, vi 0, vi 4, vi 1, vr b14, vi ((2 : Int32) + (-1 : Int32)), vi b1, .unset, .unset]) rfl ?_
  rw [Mza]
  refine XS.goto X14.here hx rfl (pc0 := 187) (pc' := 190) rfl (hb hby Aq) (by decide) (by decide) ?_
  refine Wa X14 hx hby Zl rfl ?_
  refine Wa X14 hx hby Am rfl ?_
  show Za p e below m T14 194 #[vr a1, vr Ga, vr t0, vi 0, vi 4, vi 1, vr b14, vi 1, vi b1, .unset, .unset] [(.int 4), (.int 1)] t
  refine XS.icmpYes X14.here hx rfl (pc0 := 194) (pc' := 226) rfl (hb hby Bm) rfl (feq (by decide : ¬ ((1 : Int32) = (4 : Int32)))).2 (by decide) (by decide) ?_
  refine Wa X14 hx hby Bq rfl ?_
  refine st18 _ ?_
  refine XS.astore X18.here hx rfl (hb hby Gq) rfl rfl (l' := #[vr a1, vr Ga, vr t0, vi 0, vi 4, vi 1, vr b14, vi 1, vr b18, .unset, .unset]) rfl ?_
  refine Dd X18 hx hby Hq rfl rfl ?_
  refine XS.iconst X18.here hx rfl (hb hby Iq) ?_
  refine Dd X18 hx hby Kq rfl rfl ?_
  refine XS.iconst X18.here hx rfl (hb hby Lq) ?_
  refine Wa X18 hx hby Mq rfl ?_
  refine st21 _ ?_
  refine Dd X21 hx hby Rq rfl rfl ?_
  refine Wa X21 hx hby Uq rfl ?_
  show Za p e below m T21 248 #[vr a1, vr Ga, vr t0, vi 0, vi 4, vi 1, vr b14, vi 1, vr b18, .unset, .unset] [(.int 1), (.ref b14)] t
  refine Wa X21 hx hby Vq rfl ?_
  refine Dd X21 hx hby Wq rfl rfl ?_
  refine Wa X21 hx hby Yq rfl ?_
  refine XS.iconst X21.here hx rfl (hb hby Zq) ?_
  refine st23 _ ?_
  refine XS.istore X23.here hx rfl (hb hby Br) rfl (l' := #[vr a1, vr Ga, vr t0, vi 0, vi 4, vi 2, vr b14, vi 1, vr b18, .unset, .unset]) rfl ?_
  refine Wa X23 hx hby Dr rfl ?_
  refine Wa X23 hx hby Gr rfl ?_
  refine XS.icmpNo X23.here hx rfl (hb hby Hr) rfl (feq (by decide : ¬ ((2 : Int32) = (4 : Int32)))).1 ?_
  refine Dd X23 hx hby Yw rfl rfl ?_
  refine Wa X23 hx hby Zw rfl ?_
  refine XS.iconst X23.here hx rfl (hb hby Ax) ?_
  show Za p e below m T23 272 #[vr a1, vr Ga, vr t0, vi 0, vi 4, vi 2, vr b14, vi 1, vr b18, .unset, .unset] [(.int 1), (.int 2), (.ref b18)] t
  refine XS.ishl X23.here hx rfl (hb hby Bx) rfl ?_
  show Za p e below m T23 273 #[vr a1, vr Ga, vr t0, vi 0, vi 4, vi 2, vr b14, vi 1, vr b18, .unset, .unset] [(.int ((2 : Int32) <<< ((1 : Int32) &&& 31))), (.ref b18)] t
  rw [Uxa]
  refine st24 _ ?_
  refine XS.astore X24.here hx rfl (hb hby Gx) rfl rfl (l' := #[vr a1, vr Ga, vr t0, vi 0, vi 4, vi 2, vr b14, vi 1, vr b24, .unset, .unset]) rfl ?_
  refine Va X24 hx hby Ir rfl rfl ?_
  refine Dd X24 hx hby Kr rfl rfl ?_
  refine st28 _ ?_
  refine Va X28 hx hby Mr rfl rfl ?_
  refine XS.iconst X28.here hx rfl (hb hby Pr) ?_
  refine st31 _ ?_
  refine XS.goto X31.here hx rfl (pc0 := 289) (pc' := 879) rfl (hb hby Ur) (by decide) (by decide) ?_
  exact k
 have f33 := (f29.wr W31)
 have f34 := (F28_value.other W31 (Or.inr (slot_ne (Or.inr (Ba hw 31 rfl)) (Or.inr (Ba hw 32 rfl)) (by decide) (t := (.array .byte)) (t' := .byte) (by decide) (by decide))))
 have ne35 : ¬ (b24 = a1) := (Ne.symm (Nat.ne_of_lt (Nat.lt_of_lt_of_le (Nat.lt_of_lt_of_le (Nat.lt_of_lt_of_le (Nat.lt_of_lt_of_le (Nat.lt_of_lt_of_le P0.lt Kc14.1) Kc18.1) Kc21.1) Kc23.1) gs_b24)))
 have f36 := ((F24_0.other W28 ne35).other W31 ne35)
 obtain ⟨fs, hr, hrun, hended, hW, hsame⟩ := X31.leave (v := none) (fun _ => rfl)
 refine hNG ⟨_, _, k32 _ ?_, hrun, hended, _, _, rfl, ?_, ⟨_, rfl⟩, hW, hsame.mono (by decide) (by decide)⟩
 · exact X31.returnOut hx Bd.returns (hb hby Vr) hr
 · show A5a Z a1 t0 k0 b0 b1 b2 b3 Ra Ya Ia Ua Ka Ga Ma Da Aa h0 n0 _ T31.heap _
   rw [e31]
   exact ⟨b24, k24, rfl, N31, O31, K31, g_b24, s_b24, f33, F31_coder, f34, f36⟩
theorem Iab (l : Launch) (Z : State) (a0 : Array Value) (hw : Pb a0 Z) (ws : List Jvm.Cond) (a1 t0 : Addr) (k0 : ClassId) (b0 b1 b2 b3 : Int32) (Ra Ya Ia Ua Ka Ga Ma : Addr) (Da : Int32) (Aa : Value) (h0 : Heap) (n0 : Nat) (O0 : Old Z n0 h0) (hE : EV Z Ra Ya Ia Ua Ka Ga Ma Da Aa) (P0 : Exa Z h0 a1 "java/lang/String") (P1 : Fld Z h0 a1 "java/lang/String" "value" "[B" .null) (P2 : Fld Z h0 a1 "java/lang/String" "coder" "B" (.int 0)) (P3 : Arv Z h0 t0 k0 .byte (4 : Int32) [(.int b0), (.int b1), (.int b2), (.int b3)] (.int 0)) (P4 : Exa Z h0 t0 "[B") (g_a1 : n0 ≤ a1) (na : ¬ (t0 = a1)) (m0 : ¬ (b0 < (0 : Int32))) (m1 : b1 < (0 : Int32)) (m2 : ¬ ((b1 &&& (254 : Int32)) = (194 : Int32))) (m3 : ¬ ((b1 >>> ((5 : Int32) &&& 31)) = (-2 : Int32))) (m4 : (b1 >>> ((4 : Int32) &&& 31)) = (-2 : Int32)) (m5 : (b2 &&& (192 : Int32)) = (128 : Int32)) (m6 : (b3 &&& (192 : Int32)) = (128 : Int32)) (hov : b1 = (-32 : Int32) → ¬ ((b2 &&& (224 : Int32)) = (128 : Int32))) (hs : ¬ (((((b1 <<< ((12 : Int32) &&& 31)) ^^^ (b2 <<< ((6 : Int32) &&& 31))) ^^^ (b3 ^^^ (-123008 : Int32))).toUInt32.toUInt16.toUInt32.toInt32) < (55296 : Int32)) → ¬ (((((b1 <<< ((12 : Int32) &&& 31)) ^^^ (b2 <<< ((6 : Int32) &&& 31))) ^^^ (b3 ^^^ (-123008 : Int32))).toUInt32.toUInt16.toUInt32.toInt32) < (57344 : Int32))) :
   Ib l G6 (Jvm.Cond.code G6 jdk_42_method_49_code 3 none :: ws) (Hb 6 3 16 98) #[(.ref a1), (.ref t0), (.ref Ga)] Z h0 (fun v h L => ∃ (b : Addr) (k : ClassId), v = none ∧ Fr n0 L ∧ Old Z n0 h ∧ Keep h0 h [a1] ∧ n0 ≤ b ∧ h0.size ≤ b ∧ Exa Z h a1 "java/lang/String" ∧ Fld Z h a1 "java/lang/String" "coder" "B" (.int 1) ∧ Fld Z h a1 "java/lang/String" "value" "[B" (.ref b) ∧ Arv Z h b k .byte (4 : Int32) [(.int (((b0 &&& (255 : Int32)) >>> ((0 : Int32) &&& 31)).toInt8.toInt32)), (.int (((b0 &&& (255 : Int32)) >>> ((8 : Int32) &&& 31)).toInt8.toInt32)), (.int ((((((b1 <<< ((12 : Int32) &&& 31)) ^^^ (b2 <<< ((6 : Int32) &&& 31))) ^^^ (b3 ^^^ (-123008 : Int32))).toUInt32.toUInt16.toUInt32.toInt32) >>> ((0 : Int32) &&& 31)).toInt8.toInt32)), (.int ((((((b1 <<< ((12 : Int32) &&& 31)) ^^^ (b2 <<< ((6 : Int32) &&& 31))) ^^^ (b3 ^^^ (-123008 : Int32))).toUInt32.toUInt16.toUInt32.toInt32) >>> ((8 : Int32) &&& 31)).toInt8.toInt32))] (.int 0)) := by
 refine Db (plainFor_of_name Mb) n0 [a1] fun p e s m below meth c s₁ hx hby hml hown hnm hret hlk X00 e00 hZ N00 K00 hNG => ?_
 have k00 : Ab p e below m s₁ #[(.ref a1), (.ref t0), (.ref Ga)] 3 s₁ 0 #[vr a1, vr t0, vr Ga] [] := fun t k => castTop (Hba m a1 t0 Ga ) k
 obtain ⟨_, _, _, _, _, _, _, _, _, _, _, G5, _⟩ := id hE
 obtain ⟨v10, T10, Lc10, X10, hQ10, st10⟩ := Ub X00 hx hZ hown (Ywa l Z a0 hw []  _ _ _ _ _ _ _ _ _ h0 n0 O0 hE ) (Ba hw 55 rfl) (Ba hw 56 rfl) (Ba hw 37 rfl) (Ba hw 57 rfl) e00 (g := (mkF m 2 #[vr a1, vr t0, vr Ga] [(.ref Ga), (.ref a1)])) rfl (by rw [hml]; rfl) (argsL := [(.ref Ga)]) (rest := [(.ref a1)]) rfl (lenOf He rfl) rfl (W := 1) (by show 2 * 0 + _ ≤ _; exact Nat.le_of_eq rfl) (hb hby Vk) (by decide) (by decide) (by decide) (by decide) (by decide)
 obtain ⟨rfl, N10q, hp10⟩ := hQ10
 have N10 := Fr.app N00 N10q
 obtain ⟨T11, X11, e11, st11⟩ := castY X10 hx hZ hown (Ba hw 58 rfl) hp10 (Ins.of_exa (G5.ext O0.2) (Ba hw 59 rfl)) (g := (mkF m 5 #[vr a1, vr t0, vr Ga] [(.ref Ga), (.ref a1)])) rfl rfl (hb hby Wk)
 obtain ⟨cl12, Ar12, q12, Sz12, Nn12, Hs12, Gf12⟩ := id P3
 obtain ⟨_, _, ⟨T13, L13, k13, n13⟩, -, X13, ⟨Lc13, hQ13, l13, y13, z13⟩, st13⟩ := X11.specialBackH hx (y := Wr) rfl hown (mvT hZ (Ba hw 60 rfl)) (mvT hZ (Ba hw 61 rfl)) (mvT hZ (Ba hw 63 rfl)) (by decide) (backOfWith (W := 0) (Hab l Z a0 hw [] a1 t0 k0 b0 b1 b2 b3 _ _ _ _ _ _ _ _ _ h0 n0 O0 hE P0 P1 P2 P3 P4 g_a1 na m0 m1 m2 m3 m4 m5 m6 hov hs) hZ (Ba hw 63 rfl) (Ba hw 29 rfl) (by decide) (by decide)) (g := (mkF m 12 #[vr a1, vr t0, vr Ga] [(.int 4), (.int 0), (.ref t0), (.ref Ga), (.ref a1)])) rfl (by rw [hml]; rfl) (Steps.refl _) (a := a1) (argsL := [(.ref Ga), (.ref t0), (.int 0), (.int 4)]) (rest := []) (lenOf Ag rfl) rfl (by show 2 * 0 + _ ≤ _; exact Nat.le_of_eq rfl) (hb hby Rj) (fun _ _ => ⟨rfl, e11, (by decide : 0 + 3 ≤ _), (by decide : 0 + 16 ≤ _)⟩)
 dsimp only [Pt.U, Pt.locs, Pt.cells, Pt.slots] at X13 l13 y13 z13 st13 hQ13
 subst l13 y13 z13
 obtain ⟨b13, k13, rfl, N13q, O13, Kc13, g_b13, gs_b13, F13_0, F13_1, F13_2, F13_3⟩ := hQ13
 have N13 := Fr.app N10 N13q
 have K13 := K00.trans Kc13 (allS (Or.inl (List.mem_of_getElem? (i := 0) rfl)) all0)
 have s_b13 := Nat.le_trans K00.1 gs_b13
 have lt_b13 := F13_3.lt
 have k14 : Ab p e below m s₁ #[(.ref a1), (.ref t0), (.ref Ga)] 3 T13 15 #[vr a1, vr t0, vr Ga] [] := by
  intro t k
  refine k00 t ?_
  refine Va X00 hx hby Rk rfl rfl ?_
  refine Va X00 hx hby Uk rfl rfl ?_
  refine st10 _ ?_
  refine st11 _ ?_
  refine Va X11 hx hby Yk rfl rfl ?_
  refine XS.iconst X11.here hx rfl (hb hby Zk) ?_
  refine Va X11 hx hby Mj rfl rfl ?_
  refine X11.arraylength hx (by rw [e11]; exact Ar12.1) (State.isArrayOf_alike hZ.alike Ar12.2.1) (g := (mkF m 11 #[vr a1, vr t0, vr Ga] [(.ref t0), (.int 0), (.ref t0), (.ref Ga), (.ref a1)])) rfl rfl (hb hby Pj) _ ?_
  rw [len_of Sz12 Nn12]
  refine st13.trans ?_
  exact k
 exact Yg hNG hlk X13 rfl (by decide) (by decide) (fun fs hr => k14 _ (X13.returnOut hx hret (hb hby Uj) hr)) ⟨b13, k13, rfl, N13, O13, K13, g_b13, s_b13, F13_0, F13_1, F13_2, F13_3⟩
theorem Kab (l : Launch) (Z : State) (a0 : Array Value) (hw : Pb a0 Z) (ws : List Jvm.Cond) (u0 t0 : Addr) (k0 : ClassId) (b0 b1 b2 b3 : Int32) (Ra Ya Ia Ua Ka Ga Ma : Addr) (Da : Int32) (Aa : Value) (h0 : Heap) (n0 : Nat) (O0 : Old Z n0 h0) (hE : EV Z Ra Ya Ia Ua Ka Ga Ma Da Aa) (P0 : Fld Z h0 u0 "com/example/attenuation/attenuation/core/Outcome" "body" "[B" (.ref t0)) (P1 : Exa Z h0 u0 "com/example/attenuation/attenuation/core/Outcome") (P2 : Arv Z h0 t0 k0 .byte (4 : Int32) [(.int b0), (.int b1), (.int b2), (.int b3)] (.int 0)) (P3 : Exa Z h0 t0 "[B") (m0 : ¬ (b0 < (0 : Int32))) (m1 : b1 < (0 : Int32)) (m2 : ¬ ((b1 &&& (254 : Int32)) = (194 : Int32))) (m3 : ¬ ((b1 >>> ((5 : Int32) &&& 31)) = (-2 : Int32))) (m4 : (b1 >>> ((4 : Int32) &&& 31)) = (-2 : Int32)) (m5 : (b2 &&& (192 : Int32)) = (128 : Int32)) (m6 : (b3 &&& (192 : Int32)) = (128 : Int32)) (hov : b1 = (-32 : Int32) → ¬ ((b2 &&& (224 : Int32)) = (128 : Int32))) (hs : ¬ (((((b1 <<< ((12 : Int32) &&& 31)) ^^^ (b2 <<< ((6 : Int32) &&& 31))) ^^^ (b3 ^^^ (-123008 : Int32))).toUInt32.toUInt16.toUInt32.toInt32) < (55296 : Int32)) → ¬ (((((b1 <<< ((12 : Int32) &&& 31)) ^^^ (b2 <<< ((6 : Int32) &&& 31))) ^^^ (b3 ^^^ (-123008 : Int32))).toUInt32.toUInt16.toUInt32.toInt32) < (57344 : Int32))) :
   Ib l H6 (Jvm.Cond.code H6 prog_16_method_10_code 1 (some (.object "java/lang/String")) :: ws) (Hb 7 4 20 113) #[(.ref u0)] Z h0 (fun v h L => ∃ (s : Addr) (b : Addr) (k : ClassId), v = some (.ref s) ∧ Fr n0 L ∧ Old Z n0 h ∧ Keep h0 h [] ∧ n0 ≤ s ∧ h0.size ≤ s ∧ n0 ≤ b ∧ h0.size ≤ b ∧ ¬ (s = b) ∧ Exa Z h s "java/lang/String" ∧ Fld Z h s "java/lang/String" "coder" "B" (.int 1) ∧ Fld Z h s "java/lang/String" "value" "[B" (.ref b) ∧ Arv Z h b k .byte (4 : Int32) [(.int (((b0 &&& (255 : Int32)) >>> ((0 : Int32) &&& 31)).toInt8.toInt32)), (.int (((b0 &&& (255 : Int32)) >>> ((8 : Int32) &&& 31)).toInt8.toInt32)), (.int ((((((b1 <<< ((12 : Int32) &&& 31)) ^^^ (b2 <<< ((6 : Int32) &&& 31))) ^^^ (b3 ^^^ (-123008 : Int32))).toUInt32.toUInt16.toUInt32.toInt32) >>> ((0 : Int32) &&& 31)).toInt8.toInt32)), (.int ((((((b1 <<< ((12 : Int32) &&& 31)) ^^^ (b2 <<< ((6 : Int32) &&& 31))) ^^^ (b3 ^^^ (-123008 : Int32))).toUInt32.toUInt16.toUInt32.toInt32) >>> ((8 : Int32) &&& 31)).toInt8.toInt32))] (.int 0)) := by
 refine Db (plainFor_of_name Gd) n0 [] fun p e s m below meth c s₁ hx hby hml hown hnm hret hlk X00 e00 hZ N00 K00 hNG => ?_
 have k00 : Ab p e below m s₁ #[(.ref u0)] 1 s₁ 0 #[vr u0] [] := fun t k => castTop (Aba m u0 ) k
 obtain ⟨_, _, _, _, _, _, _, _, _, _, H5, _⟩ := id hE
 obtain ⟨T10, h10, X10, e10, E10, A10, D10, -, st10⟩ := newO X00 hx hZ hown (Ba hw 49 rfl) (Ba hw 30 rfl) (Ba hw 29 rfl) e00 (g := (mkF m 0 #[vr u0] [])) rfl (hb hby Vj) (by decide) (by decide)
 obtain ⟨b10, g10⟩ : ∃ z, z = h0.size := ⟨_, rfl⟩
 rw [← g10] at A10 D10 st10
 have O10 := O0.ext E10
 have g_b10 : n0 ≤ b10 := Nat.le_trans (Nat.le_of_eq O0.1.symm) (Nat.le_trans O0.2.1 (Nat.le_of_eq g10.symm))
 have s_b10 : h0.size ≤ b10 := Nat.le_trans K00.1 (Nat.le_of_eq g10.symm)
 have K10 := K00.ext E10
 have lt_b10 := A10.lt
 have F10_value : Fld Z h10 b10 "java/lang/String" "value" "[B" .null := D10 (Or.inr (Ba hw 31 rfl)) (ty := (.array .byte)) (by decide)
 have F10_coder : Fld Z h10 b10 "java/lang/String" "coder" "B" (.int 0) := D10 (Or.inr (Ba hw 32 rfl)) (ty := .byte) (by decide)
 have f11 := (P0.ext E10)
 obtain ⟨T12, X12, e12, st12⟩ := getF X10 hx hZ hown (host := "") (Or.inl (Ba hw 42 rfl)) Via.refl e10 f11 (g := (mkF m 5 #[vr u0] [(.ref u0), (.ref b10), (.ref b10)])) rfl rfl (hb hby Zj)
 obtain ⟨T13, X13, e13, st13⟩ := getS2 X12 hx hZ hown (host := "") (Or.inl (Ba hw 50 rfl)) Via.refl e12 (H5.ext O10.2) (g := (mkF m 8 #[vr u0] [(.ref t0), (.ref b10), (.ref b10)])) rfl (hb hby Ak)
 have ne14 : ¬ (t0 = b10) := (Nat.ne_of_lt (Nat.lt_of_lt_of_le P2.lt (Nat.le_of_eq g10.symm)))
 have f15 := (P2.ext E10)
 have f16 := (P3.ext E10)
 obtain ⟨v17, T17, Lc17, X17, hQ17, st17⟩ := G1 X13 hx hZ hown (a := b10) (Iab l Z a0 hw [] b10 t0 k0 b0 b1 b2 b3 _ _ _ _ _ _ _ _ _ h10 n0 O10 hE A10 F10_value F10_coder f15 f16 g_b10 ne14 m0 m1 m2 m3 m4 m5 m6 hov hs) (Ba hw 52 rfl) (Ba hw 53 rfl) (Ba hw 29 rfl) (Ba hw 54 rfl) e13 (g := (mkF m 11 #[vr u0] [(.ref Ga), (.ref t0), (.ref b10), (.ref b10)])) rfl (by rw [hml]; rfl) (argsL := [(.ref t0), (.ref Ga)]) (rest := [(.ref b10)]) rfl (lenOf Lg rfl) rfl (W := 1) (by show 2 * 0 + _ ≤ _; exact Nat.le_of_eq rfl) (hb hby Yh) (by decide) (by decide) (by decide) (by decide) rfl (by decide)
 obtain ⟨b17, k17, rfl, N17q, O17, Kc17, g_b17, gs_b17, F17_0, F17_1, F17_2, F17_3⟩ := hQ17
 have N17 := Fr.app N00 N17q
 have K17 := K10.trans Kc17 (allS (Or.inr s_b10) all0)
 have s_b17 := Nat.le_trans K10.1 gs_b17
 have lt_b17 := F17_3.lt
 have k18 : Ab p e below m s₁ #[(.ref u0)] 1 T17 14 #[vr u0] [(.ref b10)] := by
  intro t k
  refine k00 t ?_
  refine st10 _ ?_
  refine XS.dup X10.here hx rfl (hb hby Wj) rfl rfl ?_
  refine Va X10 hx hby Yj rfl rfl ?_
  refine st12 _ ?_
  refine st13 _ ?_
  refine st17 _ ?_
  exact k
 have ne19 : ¬ (b10 = b17) := (Nat.ne_of_lt (Nat.lt_of_lt_of_le lt_b10 gs_b17))
 exact Zb (.ref b10) hNG hlk hret X17 rfl (by decide) (by decide) (fun fs hr => k18 _ (retOut X17 hx (t := (.object "java/lang/String")) hret rfl (Or.inr (Or.inr (Or.inr (Or.inr ⟨rfl, rfl, rfl⟩)))) (hb hby Zh) hr)) ⟨b10, b17, k17, rfl, N17, O17, K17, g_b10, s_b10, g_b17, s_b17, ne19, F17_0, F17_1, F17_2, F17_3⟩
def B5a (Z : State) (a1 t0 : Addr) (k0 : ClassId) (b0 b1 b2 b3 b4 : Int32) (Ra Ya Ia Ua Ka Ga Ma : Addr) (Da : Int32) (Aa : Value) (h0 : Heap) (n0 : Nat) (v : Option Value) (h : Heap) (L : List Loc) : Prop := ∃ (b : Addr) (k : ClassId), v = none ∧ Fr n0 L ∧ Old Z n0 h ∧ Keep h0 h [a1] ∧ n0 ≤ b ∧ h0.size ≤ b ∧ Exa Z h a1 "java/lang/String" ∧ Fld Z h a1 "java/lang/String" "coder" "B" (.int 1) ∧ Fld Z h a1 "java/lang/String" "value" "[B" (.ref b) ∧ Arv Z h b k .byte (6 : Int32) [(.int (((b0 &&& (255 : Int32)) >>> ((0 : Int32) &&& 31)).toInt8.toInt32)), (.int (((b0 &&& (255 : Int32)) >>> ((8 : Int32) &&& 31)).toInt8.toInt32)), (.int ((((((((((b1 <<< ((18 : Int32) &&& 31)) ^^^ (b2 <<< ((12 : Int32) &&& 31))) ^^^ (b3 <<< ((6 : Int32) &&& 31))) ^^^ (b4 ^^^ (3678080 : Int32))).toUInt32 >>> ((10 : Int32) &&& 31).toUInt32).toInt32) + (55232 : Int32)).toUInt32.toUInt16.toUInt32.toInt32) >>> ((0 : Int32) &&& 31)).toInt8.toInt32)), (.int ((((((((((b1 <<< ((18 : Int32) &&& 31)) ^^^ (b2 <<< ((12 : Int32) &&& 31))) ^^^ (b3 <<< ((6 : Int32) &&& 31))) ^^^ (b4 ^^^ (3678080 : Int32))).toUInt32 >>> ((10 : Int32) &&& 31).toUInt32).toInt32) + (55232 : Int32)).toUInt32.toUInt16.toUInt32.toInt32) >>> ((8 : Int32) &&& 31)).toInt8.toInt32)), (.int (((((((((b1 <<< ((18 : Int32) &&& 31)) ^^^ (b2 <<< ((12 : Int32) &&& 31))) ^^^ (b3 <<< ((6 : Int32) &&& 31))) ^^^ (b4 ^^^ (3678080 : Int32))) &&& (1023 : Int32)) + (56320 : Int32)).toUInt32.toUInt16.toUInt32.toInt32) >>> ((0 : Int32) &&& 31)).toInt8.toInt32)), (.int (((((((((b1 <<< ((18 : Int32) &&& 31)) ^^^ (b2 <<< ((12 : Int32) &&& 31))) ^^^ (b3 <<< ((6 : Int32) &&& 31))) ^^^ (b4 ^^^ (3678080 : Int32))) &&& (1023 : Int32)) + (56320 : Int32)).toUInt32.toUInt16.toUInt32.toInt32) >>> ((8 : Int32) &&& 31)).toInt8.toInt32))] (.int 0)
theorem Lab (l : Launch) (Z : State) (a0 : Array Value) (hw : ∀ d ∈ tables_1, d.before a0 Z = true) (ws : List Jvm.Cond) (a1 t0 : Addr) (k0 : ClassId) (b0 b1 b2 b3 b4 : Int32) (Ra Ya Ia Ua Ka Ga Ma : Addr) (Da : Int32) (Aa : Value) (h0 : Heap) (n0 : Nat) (O0 : Old Z n0 h0) (hE : EV Z Ra Ya Ia Ua Ka Ga Ma Da Aa) (P0 : Exa Z h0 a1 "java/lang/String") (P1 : Fld Z h0 a1 "java/lang/String" "value" "[B" .null) (P2 : Fld Z h0 a1 "java/lang/String" "coder" "B" (.int 0)) (P3 : Arv Z h0 t0 k0 .byte (5 : Int32) [(.int b0), (.int b1), (.int b2), (.int b3), (.int b4)] (.int 0)) (P4 : Exa Z h0 t0 "[B") (g_a1 : n0 ≤ a1) (na : ¬ (t0 = a1)) (m0 : ¬ (b0 < (0 : Int32))) (m1 : b1 < (0 : Int32)) (m2 : ¬ ((b1 &&& (254 : Int32)) = (194 : Int32))) (m3 : ¬ ((b1 >>> ((5 : Int32) &&& 31)) = (-2 : Int32))) (m4 : ¬ ((b1 >>> ((4 : Int32) &&& 31)) = (-2 : Int32))) (m5 : (b1 >>> ((3 : Int32) &&& 31)) = (-2 : Int32)) (m6 : (b2 &&& (192 : Int32)) = (128 : Int32)) (m7 : (b3 &&& (192 : Int32)) = (128 : Int32)) (m8 : (b4 &&& (192 : Int32)) = (128 : Int32)) (hs1 : ¬ (((((b1 <<< ((18 : Int32) &&& 31)) ^^^ (b2 <<< ((12 : Int32) &&& 31))) ^^^ (b3 <<< ((6 : Int32) &&& 31))) ^^^ (b4 ^^^ (3678080 : Int32))) < (65536 : Int32))) (hs2 : ((((b1 <<< ((18 : Int32) &&& 31)) ^^^ (b2 <<< ((12 : Int32) &&& 31))) ^^^ (b3 <<< ((6 : Int32) &&& 31))) ^^^ (b4 ^^^ (3678080 : Int32))) < (1114112 : Int32)) :
   MetFree l Wr (head1 (Jvm.Cond.codeWith Wr jdk_42_method_11_code 11 none [((800 : Nat), (813 : Nat), (816 : Nat), (202 : Nat))] :: ws) (Hb 5 3 21 76)) (fun a U => a = #[(.ref a1), (.ref Ga), (.ref t0), (.int 0), (.int 5)] ∧ Z.Warmed39 U.vm ∧ U.heap = h0) (fun _ _ _ _ _ => True) (fun _ U o U' => ∃ v L, o = .returned v ∧ B5a Z a1 t0 k0 b0 b1 b2 b3 b4 Ra Ya Ia Ua Ka Ga Ma Da Aa h0 n0 v U'.heap L ∧ FrameEnd U o U' L (Hb 5 3 21 76).cells (Hb 5 3 21 76).slots) := by
 refine MetFree.of_bodySF (plainFor_of_name Mb) hisWith ?_
 intro p e s m args below meth c s₁ Bd hml0 hP hK
 obtain ⟨rfl, hZ, hh⟩ := hP
 have hx := Bd.exec
 have hby := Bd.bytes
 have hml : c.maxLocals = 11 := hml0
 have hown : s.vm.findClass "java/lang/String" = some m.cls := findClass_of_methodNamed Bd.named
 have hnm := (name_of_methodNamed Bd.named Bd.method).1
 have X00 : Stand p l e (Hb 5 3 21 76) s m #[(.ref a1), (.ref Ga), (.ref t0), (.int 0), (.int 5)] below meth c s₁ [] 0 0 := Stand.of_body Bd
 have e00 : s₁.heap = h0 := by rw [← hh, Bd.state]; rfl
 have N00 := Fr.nil n0
 refine Classical.byContradiction fun hNG => ?_
 have K00 := Keep.refl h0 [a1]
 have k00 : Ab p e below m s₁ #[(.ref a1), (.ref Ga), (.ref t0), (.int 0), (.int 5)] 11 s₁ 0 #[vr a1, vr Ga, vr t0, vi 0, vi 5, .unset, .unset, .unset, .unset, .unset, .unset] [] := fun t k => castTop (Z8 m a1 Ga t0 (0 : Int32) (5 : Int32) ) k
 obtain ⟨_, _, _, _, _, _, _, _, _, _, _, _, Po, _, Vc, Mc, _, _, _, _, _, eq_UTF_8_INSTANCE⟩ := id hE
 obtain ⟨T10, X10, e10, st10⟩ := initO X00 hx hZ hown (Ba hw 64 rfl) (Ba hw 26 rfl) (Ba hw 27 rfl) e00 (g := (mkF m 1 #[vr a1, vr Ga, vr t0, vi 0, vi 5, .unset, .unset, .unset, .unset, .unset, .unset] [(.ref a1)])) rfl (by rw [hml]; rfl) rfl (hb hby Lk) (by decide) (W := 0) (by show 2 * 0 + _ ≤ _; exact Nat.le_of_eq rfl) (by decide)
 obtain ⟨T11, X11, e11, st11⟩ := getS2 X10 hx hZ hown (host := "") (Or.inl (Ba hw 65 rfl)) Via.refl e10 (Po.ext O0.2) (g := (mkF m 31 #[vr a1, vr Ga, vr t0, vi 0, vi 5, .unset, .unset, .unset, .unset, .unset, .unset] [(.ref Ga)])) rfl (hb hby Vi)
 obtain ⟨T12, X12, e12, st12⟩ := getS2 X11 hx hZ hown (host := "") (Or.inl (Ba hw 67 rfl)) Via.refl e11 (Vc.ext O0.2) (g := (mkF m 37 #[vr a1, vr Ga, vr t0, vi 0, vi 5, .unset, .unset, .unset, .unset, .unset, .unset] [])) rfl (hb hby Yi)
 obtain ⟨v13, T13, Lc13, X13, hQ13, st13⟩ := Ub X12 hx hZ hown (B7a l Z a0 hw [] t0 k0 b0 b1 b2 b3 b4 _ _ _ _ _ _ _ _ _ h0 n0 O0 hE P3 m0 m1) (Ba hw 68 rfl) (Ba hw 69 rfl) (Ba hw 70 rfl) (Ba hw 71 rfl) e12 (g := (mkF m 47 #[vr a1, vr Ga, vr t0, vi 0, vi 5, .unset, .unset, .unset, .unset, .unset, .unset] [(.int 5), (.int 0), (.ref t0)])) rfl (by rw [hml]; rfl) (argsL := [(.ref t0), (.int 0), (.int 5)]) (rest := []) rfl (lenOf Bba rfl) rfl (W := 0) (by show 2 * 0 + _ ≤ _; exact Nat.le_of_eq rfl) (hb hby Gj) (by decide) (by decide) (by decide) (by decide) (by decide)
 obtain ⟨rfl, N13q, hp13⟩ := hQ13
 have N13 := Fr.app N00 N13q
 obtain ⟨v14, T14, Lc14, X14, hQ14, st14⟩ := Ub X13 hx hZ hown (V8a l Z a0 hw [] t0 k0 b0 b1 b2 b3 b4 _ _ _ _ _ _ _ _ _ h0 n0 O0 hE P3 P4 ) (Ba hw 72 rfl) (Ba hw 73 rfl) (Ba hw 74 rfl) (Ba hw 75 rfl) hp13 (g := (mkF m 84 #[vr a1, vr Ga, vr t0, vi 0, vi 5, vi 1, .unset, .unset, .unset, .unset, .unset] [(.int 5), (.int 0), (.ref t0)])) rfl (by rw [hml]; rfl) (argsL := [(.ref t0), (.int 0), (.int 5)]) (rest := []) rfl (lenOf A9 rfl) rfl (W := 0) (by show 2 * 0 + _ ≤ _; exact Nat.le_of_eq rfl) (hb hby Wn) (by decide) (by decide) (by decide) (by decide) (by decide)
 obtain ⟨b14, k14, rfl, N14q, O14, Kc14, g_b14, gs_b14, F14_0⟩ := hQ14
 have N14 := Fr.app N13 N14q
 have K14 := K00.trans Kc14 (fun x hx => nomatch hx)
 have s_b14 := Nat.le_trans K00.1 gs_b14
 have lt_b14 := F14_0.lt
 obtain ⟨cl15, Ar15, q15, Sz15, Nn15, Hs15, Gf15⟩ := id F14_0
 have hin16 := inb_of (j := 1) Sz15 ⟨by decide, by decide⟩
 have hat17 : cl15.slots[((1 : Int32)).toNatClampNeg]? = some (.int b1) := Hs15.at hin16 rfl
 obtain ⟨v18, T18, Lc18, X18, hQ18, st18⟩ := Ub X14 hx hZ hown (rm_nb5 l Z a0 hw []  _ _ _ _ _ _ _ _ _ T14.heap n0 O14 hE  ) (Ba hw 85 rfl) (Ba hw 86 rfl) (Ba hw 87 rfl) (Ba hw 88 rfl) rfl (g := (mkF m 228 #[vr a1, vr Ga, vr t0, vi 0, vi 5, vi 1, vr b14, vi 1, vi b1, .unset, .unset] [(.int 5)])) rfl (by rw [hml]; rfl) (argsL := [(.int 5)]) (rest := []) rfl (lenOf Aca rfl) rfl (W := 0) (by show 2 * 0 + _ ≤ _; exact Nat.le_of_eq rfl) (hb hby Dq) (by decide) (by decide) (by decide) (by decide) (by decide)
 obtain ⟨b18, k18, rfl, N18q, O18, Kc18, g_b18, gs_b18, F18_0, F18_1⟩ := hQ18
 have N18 := Fr.app N14 N18q
 have K18 := K14.trans Kc18 (fun x hx => nomatch hx)
 have s_b18 := Nat.le_trans K14.1 gs_b18
 have lt_b18 := F18_0.lt
 have ne19 : ¬ (b14 = b18) := (Nat.ne_of_lt (Nat.lt_of_lt_of_le lt_b14 gs_b18))
 have f20 := (F14_0.keep Kc18 List.not_mem_nil)
 obtain ⟨v21, T21, Lc21, X21, hQ21, st21⟩ := Ub X18 hx hZ hown (K7a l Z a0 hw [] b14 b18 k14 k18 b0 b1 b2 b3 b4 _ _ _ _ _ _ _ _ _ T18.heap n0 O18 hE f20 F18_0 g_b18 ne19) (Ba hw 93 rfl) (Ba hw 94 rfl) (Ba hw 95 rfl) (Ba hw 96 rfl) rfl (g := (mkF m 241 #[vr a1, vr Ga, vr t0, vi 0, vi 5, vi 1, vr b14, vi 1, vr b18, .unset, .unset] [(.int 1), (.int 0), (.ref b18), (.int 0), (.ref b14)])) rfl (by rw [hml]; rfl) (argsL := [(.ref b14), (.int 0), (.ref b18), (.int 0), (.int 1)]) (rest := []) rfl (lenOf Uz rfl) rfl (W := 0) (by show 2 * 0 + _ ≤ _; exact Nat.le_of_eq rfl) (hb hby Pq) (by decide) (by decide) (by decide) (by decide) (by decide)
 obtain ⟨rfl, N21q, O21, Kc21, F21_0⟩ := hQ21
 have N21 := Fr.app N18 N21q
 have K21 := K18.trans Kc21 (allS (Or.inr s_b18) all0)
 have f22 := (f20.keep Kc21 (fun q => ne19 (List.mem_singleton.mp q)))
 obtain ⟨v23, T23, Lc23, X23, hQ23, st23⟩ := Ub X21 hx hZ hown (Z9a l Z a0 hw [] b14 b18 k14 k18 b0 b1 b2 b3 b4 (((b0 &&& (255 : Int32)) >>> ((0 : Int32) &&& 31)).toInt8.toInt32) (((b0 &&& (255 : Int32)) >>> ((8 : Int32) &&& 31)).toInt8.toInt32) (0 : Int32) (0 : Int32) (0 : Int32) (0 : Int32) (0 : Int32) (0 : Int32) (0 : Int32) (0 : Int32) _ _ _ _ _ _ _ _ _ T21.heap n0 O21 hE f22 F21_0 g_b18 ne19 m0 m1 m2 m3 m4 m5 m6 m7 m8 hs1 hs2) (Ba hw 120 rfl) (Ba hw 121 rfl) (Ba hw 29 rfl) (Ba hw 122 rfl) rfl (g := (mkF m 255 #[vr a1, vr Ga, vr t0, vi 0, vi 5, vi 1, vr b14, vi 1, vr b18, .unset, .unset] [(.int 1), (.int 1), (.ref b18), (.int 5), (.int 1), (.ref b14)])) rfl (by rw [hml]; rfl) (argsL := [(.ref b14), (.int 1), (.int 5), (.ref b18), (.int 1), (.int 1)]) (rest := []) rfl (lenOf Dba rfl) rfl (W := 0) (by show 2 * 0 + _ ≤ _; exact Nat.le_of_eq rfl) (hb hby Ar) (by decide) (by decide) (by decide) (by decide) (by decide)
 obtain ⟨rfl, N23q, O23, Kc23, F23_0⟩ := hQ23
 have N23 := Fr.app N21 N23q
 have K23 := K21.trans Kc23 (allS (Or.inr s_b18) all0)
 obtain ⟨v24, T24, Lc24, X24, hQ24, st24⟩ := Ub X23 hx hZ hown (U4a l Z a0 hw [] b18 k18 (((b0 &&& (255 : Int32)) >>> ((0 : Int32) &&& 31)).toInt8.toInt32) (((b0 &&& (255 : Int32)) >>> ((8 : Int32) &&& 31)).toInt8.toInt32) ((((((((((b1 <<< ((18 : Int32) &&& 31)) ^^^ (b2 <<< ((12 : Int32) &&& 31))) ^^^ (b3 <<< ((6 : Int32) &&& 31))) ^^^ (b4 ^^^ (3678080 : Int32))).toUInt32 >>> ((10 : Int32) &&& 31).toUInt32).toInt32) + (55232 : Int32)).toUInt32.toUInt16.toUInt32.toInt32) >>> ((0 : Int32) &&& 31)).toInt8.toInt32) ((((((((((b1 <<< ((18 : Int32) &&& 31)) ^^^ (b2 <<< ((12 : Int32) &&& 31))) ^^^ (b3 <<< ((6 : Int32) &&& 31))) ^^^ (b4 ^^^ (3678080 : Int32))).toUInt32 >>> ((10 : Int32) &&& 31).toUInt32).toInt32) + (55232 : Int32)).toUInt32.toUInt16.toUInt32.toInt32) >>> ((8 : Int32) &&& 31)).toInt8.toInt32) (((((((((b1 <<< ((18 : Int32) &&& 31)) ^^^ (b2 <<< ((12 : Int32) &&& 31))) ^^^ (b3 <<< ((6 : Int32) &&& 31))) ^^^ (b4 ^^^ (3678080 : Int32))) &&& (1023 : Int32)) + (56320 : Int32)).toUInt32.toUInt16.toUInt32.toInt32) >>> ((0 : Int32) &&& 31)).toInt8.toInt32) (((((((((b1 <<< ((18 : Int32) &&& 31)) ^^^ (b2 <<< ((12 : Int32) &&& 31))) ^^^ (b3 <<< ((6 : Int32) &&& 31))) ^^^ (b4 ^^^ (3678080 : Int32))) &&& (1023 : Int32)) + (56320 : Int32)).toUInt32.toUInt16.toUInt32.toInt32) >>> ((8 : Int32) &&& 31)).toInt8.toInt32) (0 : Int32) (0 : Int32) (0 : Int32) (0 : Int32) _ _ _ _ _ _ _ _ _ T23.heap n0 O23 hE F23_0 ) (Ba hw 145 rfl) (Ba hw 146 rfl) (Ba hw 74 rfl) (Ba hw 147 rfl) rfl (g := (mkF m 273 #[vr a1, vr Ga, vr t0, vi 0, vi 5, vi 3, vr b14, vi 1, vr b18, .unset, .unset] [(.int 6), (.ref b18)])) rfl (by rw [hml]; rfl) (argsL := [(.ref b18), (.int 6)]) (rest := []) rfl (lenOf Yua rfl) rfl (W := 0) (by show 2 * 0 + _ ≤ _; exact Nat.le_of_eq rfl) (hb hby Dx) (by decide) (by decide) (by decide) (by decide) (by decide)
 obtain ⟨b24, k24, rfl, N24q, O24, Kc24, g_b24, gs_b24, F24_0⟩ := hQ24
 have N24 := Fr.app N23 N24q
 have K24 := K23.trans Kc24 (fun x hx => nomatch hx)
 have s_b24 := Nat.le_trans K23.1 gs_b24
 have lt_b24 := F24_0.lt
 have f25 := (((((P0.keep Kc14).keep Kc18).keep Kc21).keep Kc23).keep Kc24)
 have ne26 : ¬ (a1 = b18) := (Nat.ne_of_lt (Nat.lt_of_lt_of_le (Nat.lt_of_lt_of_le P0.lt Kc14.1) gs_b18))
 have f27 := (((((P1.keep Kc14 List.not_mem_nil).keep Kc18 List.not_mem_nil).keep Kc21 (fun q => ne26 (List.mem_singleton.mp q))).keep Kc23 (fun q => ne26 (List.mem_singleton.mp q))).keep Kc24 List.not_mem_nil)
 obtain ⟨T28, h28, X28, e28, W28, st28⟩ := putF X24 hx hZ hown (host := "") (Or.inl (Ba hw 156 rfl)) Via.refl rfl f27 f25 (Or.inr ⟨(Ba hw 31 rfl), rfl, hnm⟩) (Ba hw 30 rfl) (ty := (.array .byte)) (by decide) rfl rfl (g := (mkF m 281 #[vr a1, vr Ga, vr t0, vi 0, vi 5, vi 3, vr b14, vi 1, vr b24, .unset, .unset] [(.ref b24), (.ref a1)])) rfl rfl (hb hby Lr)
 have F28_value := f27.same W28
 have N28 := Fr.snoc X28 N24 g_a1
 have O28 := O24.wr W28 g_a1
 have K28 := K24.wr W28 (Or.inl (List.mem_of_getElem? (i := 0) rfl))
 have f29 := (f25.wr W28)
 have f30 := ((((((P2.keep Kc14 List.not_mem_nil).keep Kc18 List.not_mem_nil).keep Kc21 (fun q => ne26 (List.mem_singleton.mp q))).keep Kc23 (fun q => ne26 (List.mem_singleton.mp q))).keep Kc24 List.not_mem_nil).other W28 (Or.inr (slot_ne (Or.inr (Ba hw 32 rfl)) (Or.inr (Ba hw 31 rfl)) (by decide) (t := .byte) (t' := (.array .byte)) (by decide) (by decide))))
 obtain ⟨T31, h31, X31, e31, W31, st31⟩ := putFN X28 hx hZ hown (Ba hw 157 rfl) Via.refl e28 f30 f29 (Or.inr ⟨(Ba hw 32 rfl), rfl, hnm⟩) (Ba hw 30 rfl) (ty := .byte) (v' := .int (1 : Int32)) (by decide) rfl (by decide) (g := (mkF m 286 #[vr a1, vr Ga, vr t0, vi 0, vi 5, vi 3, vr b14, vi 1, vr b24, .unset, .unset] [(.int 1), (.ref a1)])) rfl rfl (hb hby Rr)
 have F31_coder := f30.same W31
 have N31 := Fr.snoc X31 N28 g_a1
 have O31 := O28.wr W31 g_a1
 have K31 := K28.wr W31 (Or.inl (List.mem_of_getElem? (i := 0) rfl))
 have k32 : Ab p e below m s₁ #[(.ref a1), (.ref Ga), (.ref t0), (.int 0), (.int 5)] 11 T31 879 #[vr a1, vr Ga, vr t0, vi 0, vi 5, vi 3, vr b14, vi 1, vr b24, .unset, .unset] [] := by
  intro t k
  refine k00 t ?_
  refine Va X00 hx hby Kk rfl rfl ?_
  refine st10 _ ?_
  refine Wa X10 hx hby Mk rfl ?_
  refine XS.ifYes X10.here hx rfl (pc0 := 6) (pc' := 30) rfl (hb hby Pk) rfl ((if0 _ _).trans (feq (by decide : ¬ ((5 : Int32) = (0 : Int32)))).2) (by decide) (by decide) ?_
  refine Va X10 hx hby Ui rfl rfl ?_
  refine st11 _ ?_
  refine Jvm.RoadKit.acmp (g := (mkF m 34 #[vr a1, vr Ga, vr t0, vi 0, vi 5, .unset, .unset, .unset, .unset, .unset, .unset] [(.ref Ma), (.ref Ga)])) X11 hx rfl rfl rfl (pc0 := 34) (pc' := 37) (same := true) rfl (hb hby Wi) rfl (decide_eq_true (congrArg Value.ref eq_UTF_8_INSTANCE)) (by decide) (by decide) ?_
  refine st12 _ ?_
  refine XS.ifNo X12.here hx rfl (hb hby Zi) rfl ((if0 _ _).trans (feq Mc).1) ?_
  refine Va X12 hx hby Aj rfl rfl ?_
  refine Pa X12 hx hby Bj rfl ?_
  refine Wa X12 hx hby Dj rfl ?_
  show Za p e below m T12 47 #[vr a1, vr Ga, vr t0, vi 0, vi 5, .unset, .unset, .unset, .unset, .unset, .unset] [(.int 5), (.int 0), (.ref t0)] t
  refine st13 _ ?_
  refine XS.istore X13.here hx rfl (hb hby Hj) rfl (l' := #[vr a1, vr Ga, vr t0, vi 0, vi 5, vi 1, .unset, .unset, .unset, .unset, .unset]) rfl ?_
  refine Wa X13 hx hby Ij rfl ?_
  refine Wa X13 hx hby Kj rfl ?_
  refine XS.icmpYes X13.here hx rfl (pc0 := 56) (pc' := 78) rfl (hb hby Lj) rfl (feq (by decide : ¬ ((1 : Int32) = (5 : Int32)))).2 (by decide) (by decide) ?_
  refine Va X13 hx hby Mn rfl rfl ?_
  refine Pa X13 hx hby Pn rfl ?_
  refine Pa X13 hx hby Rn rfl ?_
  refine Wa X13 hx hby Un rfl ?_
  refine XS.iadd X13.here hx rfl (hb hby Vn) rfl ?_
  show Za p e below m T13 84 #[vr a1, vr Ga, vr t0, vi 0, vi 5, vi 1, .unset, .unset, .unset, .unset, .unset] [(.int ((0 : Int32) + (5 : Int32))), (.int 0), (.ref t0)] t
  rw [V2a]
  refine st14 _ ?_
  refine XS.astore X14.here hx rfl (hb hby Yn) rfl rfl (l' := #[vr a1, vr Ga, vr t0, vi 0, vi 5, vi 1, vr b14, .unset, .unset, .unset, .unset]) rfl ?_
  refine Wa X14 hx hby Zn rfl ?_
  refine XS.istore X14.here hx rfl (hb hby Ao) rfl (l' := #[vr a1, vr Ga, vr t0, vi 0, vi 5, vi 1, vr b14, vi 1, .unset, .unset, .unset]) rfl ?_
  refine Wa X14 hx hby Bk rfl ?_
  refine Wa X14 hx hby Dk rfl ?_
  refine XS.icmpNo X14.here hx rfl (hb hby Gk) rfl (tlt (by decide : (1 : Int32) < (5 : Int32))).2.1 ?_
  refine Dd X14 hx hby Gl rfl rfl ?_
  refine Wa X14 hx hby Hl rfl ?_
  refine XS.iinc X14.here hx rfl (hb hby Il) rfl (l' := #[vr a1, vr Ga, vr t0, vi 0, vi 5, vi 1, vr b14, vi ((1 : Int32) + (1 : Int32)), .unset, .unset, .unset]) rfl ?_
  rw [Hm]
  refine X14.baloadBytes hx (j := 1) (v := (.int b1)) (by exact Ar15.1) (State.isArrayOf_alike hZ.alike Ar15.2.1) Ar15.2.2 hin16 hat17 (g := (mkF m 107 #[vr a1, vr Ga, vr t0, vi 0, vi 5, vi 1, vr b14, vi 2, .unset, .unset, .unset] [(.int 1), (.ref b14)])) rfl rfl (hb hby Kl) _ ?_
  show Za p e below m T14 108 #[vr a1, vr Ga, vr t0, vi 0, vi 5, vi 1, vr b14, vi 2, .unset, .unset, .unset] [(.int b1)] t
  refine XS.istore X14.here hx rfl (hb hby Ll) rfl (l' := #[vr a1, vr Ga, vr t0, vi 0, vi 5, vi 1, vr b14, vi 2, vi b1, .unset, .unset]) rfl ?_
  refine Wa X14 hx hby Ml rfl ?_
  refine XS.ifYes X14.here hx rfl (pc0 := 112) (pc' := 129) rfl (hb hby Pl) rfl ((if0 _ _).trans (tlt m1).1) (by decide) (by decide) ?_
  refine Wa X14 hx hby Rl rfl ?_
  refine XS.sipush X14.here hx rfl (hb hby Ul) ?_
  refine XS.iand X14.here hx rfl (hb hby Vl) rfl ?_
  refine XS.sipush X14.here hx rfl (hb hby Wl) ?_
  refine XS.icmpYes X14.here hx rfl (pc0 := 138) (pc' := 184) rfl (hb hby Yl) rfl (feq m2).2 (by decide) (by decide) ?_
  refine XS.iinc X14.here hx rfl (hb hby Zp) rfl (l' := #[vr a1, vr Ga, vr t0, vi 0, vi 5, vi 1, vr b14, vi ((2 : Int32) + (-1 : Int32)), vi b1, .unset, .unset]) rfl ?_
  rw [Mza]
  refine XS.goto X14.here hx rfl (pc0 := 187) (pc' := 190) rfl (hb hby Aq) (by decide) (by decide) ?_
  refine Wa X14 hx hby Zl rfl ?_
  refine Wa X14 hx hby Am rfl ?_
  show Za p e below m T14 194 #[vr a1, vr Ga, vr t0, vi 0, vi 5, vi 1, vr b14, vi 1, vi b1, .unset, .unset] [(.int 5), (.int 1)] t
  refine XS.icmpYes X14.here hx rfl (pc0 := 194) (pc' := 226) rfl (hb hby Bm) rfl (feq (by decide : ¬ ((1 : Int32) = (5 : Int32)))).2 (by decide) (by decide) ?_
  refine Wa X14 hx hby Bq rfl ?_
  refine st18 _ ?_
  refine XS.astore X18.here hx rfl (hb hby Gq) rfl rfl (l' := #[vr a1, vr Ga, vr t0, vi 0, vi 5, vi 1, vr b14, vi 1, vr b18, .unset, .unset]) rfl ?_
  refine Dd X18 hx hby Hq rfl rfl ?_
  refine XS.iconst X18.here hx rfl (hb hby Iq) ?_
  refine Dd X18 hx hby Kq rfl rfl ?_
  refine XS.iconst X18.here hx rfl (hb hby Lq) ?_
  refine Wa X18 hx hby Mq rfl ?_
  refine st21 _ ?_
  refine Dd X21 hx hby Rq rfl rfl ?_
  refine Wa X21 hx hby Uq rfl ?_
  show Za p e below m T21 248 #[vr a1, vr Ga, vr t0, vi 0, vi 5, vi 1, vr b14, vi 1, vr b18, .unset, .unset] [(.int 1), (.ref b14)] t
  refine Wa X21 hx hby Vq rfl ?_
  refine Dd X21 hx hby Wq rfl rfl ?_
  refine Wa X21 hx hby Yq rfl ?_
  refine XS.iconst X21.here hx rfl (hb hby Zq) ?_
  refine st23 _ ?_
  refine XS.istore X23.here hx rfl (hb hby Br) rfl (l' := #[vr a1, vr Ga, vr t0, vi 0, vi 5, vi 3, vr b14, vi 1, vr b18, .unset, .unset]) rfl ?_
  refine Wa X23 hx hby Dr rfl ?_
  refine Wa X23 hx hby Gr rfl ?_
  refine XS.icmpNo X23.here hx rfl (hb hby Hr) rfl (feq (by decide : ¬ ((3 : Int32) = (5 : Int32)))).1 ?_
  refine Dd X23 hx hby Yw rfl rfl ?_
  refine Wa X23 hx hby Zw rfl ?_
  refine XS.iconst X23.here hx rfl (hb hby Ax) ?_
  show Za p e below m T23 272 #[vr a1, vr Ga, vr t0, vi 0, vi 5, vi 3, vr b14, vi 1, vr b18, .unset, .unset] [(.int 1), (.int 3), (.ref b18)] t
  refine XS.ishl X23.here hx rfl (hb hby Bx) rfl ?_
  show Za p e below m T23 273 #[vr a1, vr Ga, vr t0, vi 0, vi 5, vi 3, vr b14, vi 1, vr b18, .unset, .unset] [(.int ((3 : Int32) <<< ((1 : Int32) &&& 31))), (.ref b18)] t
  rw [R4a]
  refine st24 _ ?_
  refine XS.astore X24.here hx rfl (hb hby Gx) rfl rfl (l' := #[vr a1, vr Ga, vr t0, vi 0, vi 5, vi 3, vr b14, vi 1, vr b24, .unset, .unset]) rfl ?_
  refine Va X24 hx hby Ir rfl rfl ?_
  refine Dd X24 hx hby Kr rfl rfl ?_
  refine st28 _ ?_
  refine Va X28 hx hby Mr rfl rfl ?_
  refine XS.iconst X28.here hx rfl (hb hby Pr) ?_
  refine st31 _ ?_
  refine XS.goto X31.here hx rfl (pc0 := 289) (pc' := 879) rfl (hb hby Ur) (by decide) (by decide) ?_
  exact k
 have f33 := (f29.wr W31)
 have f34 := (F28_value.other W31 (Or.inr (slot_ne (Or.inr (Ba hw 31 rfl)) (Or.inr (Ba hw 32 rfl)) (by decide) (t := (.array .byte)) (t' := .byte) (by decide) (by decide))))
 have ne35 : ¬ (b24 = a1) := (Ne.symm (Nat.ne_of_lt (Nat.lt_of_lt_of_le (Nat.lt_of_lt_of_le (Nat.lt_of_lt_of_le (Nat.lt_of_lt_of_le (Nat.lt_of_lt_of_le P0.lt Kc14.1) Kc18.1) Kc21.1) Kc23.1) gs_b24)))
 have f36 := ((F24_0.other W28 ne35).other W31 ne35)
 obtain ⟨fs, hr, hrun, hended, hW, hsame⟩ := X31.leave (v := none) (fun _ => rfl)
 refine hNG ⟨_, _, k32 _ ?_, hrun, hended, _, _, rfl, ?_, ⟨_, rfl⟩, hW, hsame.mono (by decide) (by decide)⟩
 · exact X31.returnOut hx Bd.returns (hb hby Vr) hr
 · show B5a Z a1 t0 k0 b0 b1 b2 b3 b4 Ra Ya Ia Ua Ka Ga Ma Da Aa h0 n0 _ T31.heap _
   rw [e31]
   exact ⟨b24, k24, rfl, N31, O31, K31, g_b24, s_b24, f33, F31_coder, f34, f36⟩
theorem Mab (l : Launch) (Z : State) (a0 : Array Value) (hw : Pb a0 Z) (ws : List Jvm.Cond) (a1 t0 : Addr) (k0 : ClassId) (b0 b1 b2 b3 b4 : Int32) (Ra Ya Ia Ua Ka Ga Ma : Addr) (Da : Int32) (Aa : Value) (h0 : Heap) (n0 : Nat) (O0 : Old Z n0 h0) (hE : EV Z Ra Ya Ia Ua Ka Ga Ma Da Aa) (P0 : Exa Z h0 a1 "java/lang/String") (P1 : Fld Z h0 a1 "java/lang/String" "value" "[B" .null) (P2 : Fld Z h0 a1 "java/lang/String" "coder" "B" (.int 0)) (P3 : Arv Z h0 t0 k0 .byte (5 : Int32) [(.int b0), (.int b1), (.int b2), (.int b3), (.int b4)] (.int 0)) (P4 : Exa Z h0 t0 "[B") (g_a1 : n0 ≤ a1) (na : ¬ (t0 = a1)) (m0 : ¬ (b0 < (0 : Int32))) (m1 : b1 < (0 : Int32)) (m2 : ¬ ((b1 &&& (254 : Int32)) = (194 : Int32))) (m3 : ¬ ((b1 >>> ((5 : Int32) &&& 31)) = (-2 : Int32))) (m4 : ¬ ((b1 >>> ((4 : Int32) &&& 31)) = (-2 : Int32))) (m5 : (b1 >>> ((3 : Int32) &&& 31)) = (-2 : Int32)) (m6 : (b2 &&& (192 : Int32)) = (128 : Int32)) (m7 : (b3 &&& (192 : Int32)) = (128 : Int32)) (m8 : (b4 &&& (192 : Int32)) = (128 : Int32)) (hs1 : ¬ (((((b1 <<< ((18 : Int32) &&& 31)) ^^^ (b2 <<< ((12 : Int32) &&& 31))) ^^^ (b3 <<< ((6 : Int32) &&& 31))) ^^^ (b4 ^^^ (3678080 : Int32))) < (65536 : Int32))) (hs2 : ((((b1 <<< ((18 : Int32) &&& 31)) ^^^ (b2 <<< ((12 : Int32) &&& 31))) ^^^ (b3 <<< ((6 : Int32) &&& 31))) ^^^ (b4 ^^^ (3678080 : Int32))) < (1114112 : Int32)) :
   Ib l G6 (Jvm.Cond.code G6 jdk_42_method_49_code 3 none :: ws) (Hb 6 3 21 98) #[(.ref a1), (.ref t0), (.ref Ga)] Z h0 (fun v h L => ∃ (b : Addr) (k : ClassId), v = none ∧ Fr n0 L ∧ Old Z n0 h ∧ Keep h0 h [a1] ∧ n0 ≤ b ∧ h0.size ≤ b ∧ Exa Z h a1 "java/lang/String" ∧ Fld Z h a1 "java/lang/String" "coder" "B" (.int 1) ∧ Fld Z h a1 "java/lang/String" "value" "[B" (.ref b) ∧ Arv Z h b k .byte (6 : Int32) [(.int (((b0 &&& (255 : Int32)) >>> ((0 : Int32) &&& 31)).toInt8.toInt32)), (.int (((b0 &&& (255 : Int32)) >>> ((8 : Int32) &&& 31)).toInt8.toInt32)), (.int ((((((((((b1 <<< ((18 : Int32) &&& 31)) ^^^ (b2 <<< ((12 : Int32) &&& 31))) ^^^ (b3 <<< ((6 : Int32) &&& 31))) ^^^ (b4 ^^^ (3678080 : Int32))).toUInt32 >>> ((10 : Int32) &&& 31).toUInt32).toInt32) + (55232 : Int32)).toUInt32.toUInt16.toUInt32.toInt32) >>> ((0 : Int32) &&& 31)).toInt8.toInt32)), (.int ((((((((((b1 <<< ((18 : Int32) &&& 31)) ^^^ (b2 <<< ((12 : Int32) &&& 31))) ^^^ (b3 <<< ((6 : Int32) &&& 31))) ^^^ (b4 ^^^ (3678080 : Int32))).toUInt32 >>> ((10 : Int32) &&& 31).toUInt32).toInt32) + (55232 : Int32)).toUInt32.toUInt16.toUInt32.toInt32) >>> ((8 : Int32) &&& 31)).toInt8.toInt32)), (.int (((((((((b1 <<< ((18 : Int32) &&& 31)) ^^^ (b2 <<< ((12 : Int32) &&& 31))) ^^^ (b3 <<< ((6 : Int32) &&& 31))) ^^^ (b4 ^^^ (3678080 : Int32))) &&& (1023 : Int32)) + (56320 : Int32)).toUInt32.toUInt16.toUInt32.toInt32) >>> ((0 : Int32) &&& 31)).toInt8.toInt32)), (.int (((((((((b1 <<< ((18 : Int32) &&& 31)) ^^^ (b2 <<< ((12 : Int32) &&& 31))) ^^^ (b3 <<< ((6 : Int32) &&& 31))) ^^^ (b4 ^^^ (3678080 : Int32))) &&& (1023 : Int32)) + (56320 : Int32)).toUInt32.toUInt16.toUInt32.toInt32) >>> ((8 : Int32) &&& 31)).toInt8.toInt32))] (.int 0)) := by
 refine Db (plainFor_of_name Mb) n0 [a1] fun p e s m below meth c s₁ hx hby hml hown hnm hret hlk X00 e00 hZ N00 K00 hNG => ?_
 have k00 : Ab p e below m s₁ #[(.ref a1), (.ref t0), (.ref Ga)] 3 s₁ 0 #[vr a1, vr t0, vr Ga] [] := fun t k => castTop (Hba m a1 t0 Ga ) k
 obtain ⟨_, _, _, _, _, _, _, _, _, _, _, G5, _⟩ := id hE
 obtain ⟨v10, T10, Lc10, X10, hQ10, st10⟩ := Ub X00 hx hZ hown (Ywa l Z a0 hw []  _ _ _ _ _ _ _ _ _ h0 n0 O0 hE ) (Ba hw 55 rfl) (Ba hw 56 rfl) (Ba hw 37 rfl) (Ba hw 57 rfl) e00 (g := (mkF m 2 #[vr a1, vr t0, vr Ga] [(.ref Ga), (.ref a1)])) rfl (by rw [hml]; rfl) (argsL := [(.ref Ga)]) (rest := [(.ref a1)]) rfl (lenOf He rfl) rfl (W := 1) (by show 2 * 0 + _ ≤ _; exact Nat.le_of_eq rfl) (hb hby Vk) (by decide) (by decide) (by decide) (by decide) (by decide)
 obtain ⟨rfl, N10q, hp10⟩ := hQ10
 have N10 := Fr.app N00 N10q
 obtain ⟨T11, X11, e11, st11⟩ := castY X10 hx hZ hown (Ba hw 58 rfl) hp10 (Ins.of_exa (G5.ext O0.2) (Ba hw 59 rfl)) (g := (mkF m 5 #[vr a1, vr t0, vr Ga] [(.ref Ga), (.ref a1)])) rfl rfl (hb hby Wk)
 obtain ⟨cl12, Ar12, q12, Sz12, Nn12, Hs12, Gf12⟩ := id P3
 obtain ⟨_, _, ⟨T13, L13, k13, n13⟩, -, X13, ⟨Lc13, hQ13, l13, y13, z13⟩, st13⟩ := X11.specialBackH hx (y := Wr) rfl hown (mvT hZ (Ba hw 60 rfl)) (mvT hZ (Ba hw 61 rfl)) (mvT hZ (Ba hw 63 rfl)) (by decide) (backOfWith (W := 0) (Lab l Z a0 hw [] a1 t0 k0 b0 b1 b2 b3 b4 _ _ _ _ _ _ _ _ _ h0 n0 O0 hE P0 P1 P2 P3 P4 g_a1 na m0 m1 m2 m3 m4 m5 m6 m7 m8 hs1 hs2) hZ (Ba hw 63 rfl) (Ba hw 29 rfl) (by decide) (by decide)) (g := (mkF m 12 #[vr a1, vr t0, vr Ga] [(.int 5), (.int 0), (.ref t0), (.ref Ga), (.ref a1)])) rfl (by rw [hml]; rfl) (Steps.refl _) (a := a1) (argsL := [(.ref Ga), (.ref t0), (.int 0), (.int 5)]) (rest := []) (lenOf Ag rfl) rfl (by show 2 * 0 + _ ≤ _; exact Nat.le_of_eq rfl) (hb hby Rj) (fun _ _ => ⟨rfl, e11, (by decide : 0 + 3 ≤ _), (by decide : 0 + 21 ≤ _)⟩)
 dsimp only [Pt.U, Pt.locs, Pt.cells, Pt.slots] at X13 l13 y13 z13 st13 hQ13
 subst l13 y13 z13
 obtain ⟨b13, k13, rfl, N13q, O13, Kc13, g_b13, gs_b13, F13_0, F13_1, F13_2, F13_3⟩ := hQ13
 have N13 := Fr.app N10 N13q
 have K13 := K00.trans Kc13 (allS (Or.inl (List.mem_of_getElem? (i := 0) rfl)) all0)
 have s_b13 := Nat.le_trans K00.1 gs_b13
 have lt_b13 := F13_3.lt
 have k14 : Ab p e below m s₁ #[(.ref a1), (.ref t0), (.ref Ga)] 3 T13 15 #[vr a1, vr t0, vr Ga] [] := by
  intro t k
  refine k00 t ?_
  refine Va X00 hx hby Rk rfl rfl ?_
  refine Va X00 hx hby Uk rfl rfl ?_
  refine st10 _ ?_
  refine st11 _ ?_
  refine Va X11 hx hby Yk rfl rfl ?_
  refine XS.iconst X11.here hx rfl (hb hby Zk) ?_
  refine Va X11 hx hby Mj rfl rfl ?_
  refine X11.arraylength hx (by rw [e11]; exact Ar12.1) (State.isArrayOf_alike hZ.alike Ar12.2.1) (g := (mkF m 11 #[vr a1, vr t0, vr Ga] [(.ref t0), (.int 0), (.ref t0), (.ref Ga), (.ref a1)])) rfl rfl (hb hby Pj) _ ?_
  rw [len_of Sz12 Nn12]
  refine st13.trans ?_
  exact k
 exact Yg hNG hlk X13 rfl (by decide) (by decide) (fun fs hr => k14 _ (X13.returnOut hx hret (hb hby Uj) hr)) ⟨b13, k13, rfl, N13, O13, K13, g_b13, s_b13, F13_0, F13_1, F13_2, F13_3⟩
theorem Pab (l : Launch) (Z : State) (a0 : Array Value) (hw : Pb a0 Z) (ws : List Jvm.Cond) (u0 t0 : Addr) (k0 : ClassId) (b0 b1 b2 b3 b4 : Int32) (Ra Ya Ia Ua Ka Ga Ma : Addr) (Da : Int32) (Aa : Value) (h0 : Heap) (n0 : Nat) (O0 : Old Z n0 h0) (hE : EV Z Ra Ya Ia Ua Ka Ga Ma Da Aa) (P0 : Fld Z h0 u0 "com/example/attenuation/attenuation/core/Outcome" "body" "[B" (.ref t0)) (P1 : Exa Z h0 u0 "com/example/attenuation/attenuation/core/Outcome") (P2 : Arv Z h0 t0 k0 .byte (5 : Int32) [(.int b0), (.int b1), (.int b2), (.int b3), (.int b4)] (.int 0)) (P3 : Exa Z h0 t0 "[B") (m0 : ¬ (b0 < (0 : Int32))) (m1 : b1 < (0 : Int32)) (m2 : ¬ ((b1 &&& (254 : Int32)) = (194 : Int32))) (m3 : ¬ ((b1 >>> ((5 : Int32) &&& 31)) = (-2 : Int32))) (m4 : ¬ ((b1 >>> ((4 : Int32) &&& 31)) = (-2 : Int32))) (m5 : (b1 >>> ((3 : Int32) &&& 31)) = (-2 : Int32)) (m6 : (b2 &&& (192 : Int32)) = (128 : Int32)) (m7 : (b3 &&& (192 : Int32)) = (128 : Int32)) (m8 : (b4 &&& (192 : Int32)) = (128 : Int32)) (hs1 : ¬ (((((b1 <<< ((18 : Int32) &&& 31)) ^^^ (b2 <<< ((12 : Int32) &&& 31))) ^^^ (b3 <<< ((6 : Int32) &&& 31))) ^^^ (b4 ^^^ (3678080 : Int32))) < (65536 : Int32))) (hs2 : ((((b1 <<< ((18 : Int32) &&& 31)) ^^^ (b2 <<< ((12 : Int32) &&& 31))) ^^^ (b3 <<< ((6 : Int32) &&& 31))) ^^^ (b4 ^^^ (3678080 : Int32))) < (1114112 : Int32)) :
   Ib l H6 (Jvm.Cond.code H6 prog_16_method_10_code 1 (some (.object "java/lang/String")) :: ws) (Hb 7 4 25 113) #[(.ref u0)] Z h0 (fun v h L => ∃ (s : Addr) (b : Addr) (k : ClassId), v = some (.ref s) ∧ Fr n0 L ∧ Old Z n0 h ∧ Keep h0 h [] ∧ n0 ≤ s ∧ h0.size ≤ s ∧ n0 ≤ b ∧ h0.size ≤ b ∧ ¬ (s = b) ∧ Exa Z h s "java/lang/String" ∧ Fld Z h s "java/lang/String" "coder" "B" (.int 1) ∧ Fld Z h s "java/lang/String" "value" "[B" (.ref b) ∧ Arv Z h b k .byte (6 : Int32) [(.int (((b0 &&& (255 : Int32)) >>> ((0 : Int32) &&& 31)).toInt8.toInt32)), (.int (((b0 &&& (255 : Int32)) >>> ((8 : Int32) &&& 31)).toInt8.toInt32)), (.int ((((((((((b1 <<< ((18 : Int32) &&& 31)) ^^^ (b2 <<< ((12 : Int32) &&& 31))) ^^^ (b3 <<< ((6 : Int32) &&& 31))) ^^^ (b4 ^^^ (3678080 : Int32))).toUInt32 >>> ((10 : Int32) &&& 31).toUInt32).toInt32) + (55232 : Int32)).toUInt32.toUInt16.toUInt32.toInt32) >>> ((0 : Int32) &&& 31)).toInt8.toInt32)), (.int ((((((((((b1 <<< ((18 : Int32) &&& 31)) ^^^ (b2 <<< ((12 : Int32) &&& 31))) ^^^ (b3 <<< ((6 : Int32) &&& 31))) ^^^ (b4 ^^^ (3678080 : Int32))).toUInt32 >>> ((10 : Int32) &&& 31).toUInt32).toInt32) + (55232 : Int32)).toUInt32.toUInt16.toUInt32.toInt32) >>> ((8 : Int32) &&& 31)).toInt8.toInt32)), (.int (((((((((b1 <<< ((18 : Int32) &&& 31)) ^^^ (b2 <<< ((12 : Int32) &&& 31))) ^^^ (b3 <<< ((6 : Int32) &&& 31))) ^^^ (b4 ^^^ (3678080 : Int32))) &&& (1023 : Int32)) + (56320 : Int32)).toUInt32.toUInt16.toUInt32.toInt32) >>> ((0 : Int32) &&& 31)).toInt8.toInt32)), (.int (((((((((b1 <<< ((18 : Int32) &&& 31)) ^^^ (b2 <<< ((12 : Int32) &&& 31))) ^^^ (b3 <<< ((6 : Int32) &&& 31))) ^^^ (b4 ^^^ (3678080 : Int32))) &&& (1023 : Int32)) + (56320 : Int32)).toUInt32.toUInt16.toUInt32.toInt32) >>> ((8 : Int32) &&& 31)).toInt8.toInt32))] (.int 0)) := by
 refine Db (plainFor_of_name Gd) n0 [] fun p e s m below meth c s₁ hx hby hml hown hnm hret hlk X00 e00 hZ N00 K00 hNG => ?_
 have k00 : Ab p e below m s₁ #[(.ref u0)] 1 s₁ 0 #[vr u0] [] := fun t k => castTop (Aba m u0 ) k
 obtain ⟨_, _, _, _, _, _, _, _, _, _, H5, _⟩ := id hE
 obtain ⟨T10, h10, X10, e10, E10, A10, D10, -, st10⟩ := newO X00 hx hZ hown (Ba hw 49 rfl) (Ba hw 30 rfl) (Ba hw 29 rfl) e00 (g := (mkF m 0 #[vr u0] [])) rfl (hb hby Vj) (by decide) (by decide)
 obtain ⟨b10, g10⟩ : ∃ z, z = h0.size := ⟨_, rfl⟩
 rw [← g10] at A10 D10 st10
 have O10 := O0.ext E10
 have g_b10 : n0 ≤ b10 := Nat.le_trans (Nat.le_of_eq O0.1.symm) (Nat.le_trans O0.2.1 (Nat.le_of_eq g10.symm))
 have s_b10 : h0.size ≤ b10 := Nat.le_trans K00.1 (Nat.le_of_eq g10.symm)
 have K10 := K00.ext E10
 have lt_b10 := A10.lt
 have F10_value : Fld Z h10 b10 "java/lang/String" "value" "[B" .null := D10 (Or.inr (Ba hw 31 rfl)) (ty := (.array .byte)) (by decide)
 have F10_coder : Fld Z h10 b10 "java/lang/String" "coder" "B" (.int 0) := D10 (Or.inr (Ba hw 32 rfl)) (ty := .byte) (by decide)
 have f11 := (P0.ext E10)
 obtain ⟨T12, X12, e12, st12⟩ := getF X10 hx hZ hown (host := "") (Or.inl (Ba hw 42 rfl)) Via.refl e10 f11 (g := (mkF m 5 #[vr u0] [(.ref u0), (.ref b10), (.ref b10)])) rfl rfl (hb hby Zj)
 obtain ⟨T13, X13, e13, st13⟩ := getS2 X12 hx hZ hown (host := "") (Or.inl (Ba hw 50 rfl)) Via.refl e12 (H5.ext O10.2) (g := (mkF m 8 #[vr u0] [(.ref t0), (.ref b10), (.ref b10)])) rfl (hb hby Ak)
 have ne14 : ¬ (t0 = b10) := (Nat.ne_of_lt (Nat.lt_of_lt_of_le P2.lt (Nat.le_of_eq g10.symm)))
 have f15 := (P2.ext E10)
 have f16 := (P3.ext E10)
 obtain ⟨v17, T17, Lc17, X17, hQ17, st17⟩ := G1 X13 hx hZ hown (a := b10) (Mab l Z a0 hw [] b10 t0 k0 b0 b1 b2 b3 b4 _ _ _ _ _ _ _ _ _ h10 n0 O10 hE A10 F10_value F10_coder f15 f16 g_b10 ne14 m0 m1 m2 m3 m4 m5 m6 m7 m8 hs1 hs2) (Ba hw 52 rfl) (Ba hw 53 rfl) (Ba hw 29 rfl) (Ba hw 54 rfl) e13 (g := (mkF m 11 #[vr u0] [(.ref Ga), (.ref t0), (.ref b10), (.ref b10)])) rfl (by rw [hml]; rfl) (argsL := [(.ref t0), (.ref Ga)]) (rest := [(.ref b10)]) rfl (lenOf Lg rfl) rfl (W := 1) (by show 2 * 0 + _ ≤ _; exact Nat.le_of_eq rfl) (hb hby Yh) (by decide) (by decide) (by decide) (by decide) rfl (by decide)
 obtain ⟨b17, k17, rfl, N17q, O17, Kc17, g_b17, gs_b17, F17_0, F17_1, F17_2, F17_3⟩ := hQ17
 have N17 := Fr.app N00 N17q
 have K17 := K10.trans Kc17 (allS (Or.inr s_b10) all0)
 have s_b17 := Nat.le_trans K10.1 gs_b17
 have lt_b17 := F17_3.lt
 have k18 : Ab p e below m s₁ #[(.ref u0)] 1 T17 14 #[vr u0] [(.ref b10)] := by
  intro t k
  refine k00 t ?_
  refine st10 _ ?_
  refine XS.dup X10.here hx rfl (hb hby Wj) rfl rfl ?_
  refine Va X10 hx hby Yj rfl rfl ?_
  refine st12 _ ?_
  refine st13 _ ?_
  refine st17 _ ?_
  exact k
 have ne19 : ¬ (b10 = b17) := (Nat.ne_of_lt (Nat.lt_of_lt_of_le lt_b10 gs_b17))
 exact Zb (.ref b10) hNG hlk hret X17 rfl (by decide) (by decide) (fun fs hr => k18 _ (retOut X17 hx (t := (.object "java/lang/String")) hret rfl (Or.inr (Or.inr (Or.inr (Or.inr ⟨rfl, rfl, rfl⟩)))) (hb hby Zh) hr)) ⟨b10, b17, k17, rfl, N17, O17, K17, g_b10, s_b10, g_b17, s_b17, ne19, F17_0, F17_1, F17_2, F17_3⟩
def D5a (Z : State) (a1 t0 : Addr) (k0 : ClassId) (b0 b1 b2 : Int32) (Ra Ya Ia Ua Ka Ga Ma : Addr) (Da : Int32) (Aa : Value) (h0 : Heap) (n0 : Nat) (v : Option Value) (h : Heap) (L : List Loc) : Prop := ∃ (b : Addr) (k : ClassId), v = none ∧ Fr n0 L ∧ Old Z n0 h ∧ Keep h0 h [a1] ∧ n0 ≤ b ∧ h0.size ≤ b ∧ Exa Z h a1 "java/lang/String" ∧ Fld Z h a1 "java/lang/String" "coder" "B" (.int 1) ∧ Fld Z h a1 "java/lang/String" "value" "[B" (.ref b) ∧ Arv Z h b k .byte (6 : Int32) [(.int (((b0 &&& (255 : Int32)) >>> ((0 : Int32) &&& 31)).toInt8.toInt32)), (.int (((b0 &&& (255 : Int32)) >>> ((8 : Int32) &&& 31)).toInt8.toInt32)), (.int (((65533 : Int32) >>> ((0 : Int32) &&& 31)).toInt8.toInt32)), (.int (((65533 : Int32) >>> ((8 : Int32) &&& 31)).toInt8.toInt32)), (.int (((b2.toUInt32.toUInt16.toUInt32.toInt32) >>> ((0 : Int32) &&& 31)).toInt8.toInt32)), (.int (((b2.toUInt32.toUInt16.toUInt32.toInt32) >>> ((8 : Int32) &&& 31)).toInt8.toInt32))] (.int 0)
theorem Rab (l : Launch) (Z : State) (a0 : Array Value) (hw : ∀ d ∈ tables_1, d.before a0 Z = true) (ws : List Jvm.Cond) (a1 t0 : Addr) (k0 : ClassId) (b0 b1 b2 : Int32) (Ra Ya Ia Ua Ka Ga Ma : Addr) (Da : Int32) (Aa : Value) (h0 : Heap) (n0 : Nat) (O0 : Old Z n0 h0) (hE : EV Z Ra Ya Ia Ua Ka Ga Ma Da Aa) (P0 : Exa Z h0 a1 "java/lang/String") (P1 : Fld Z h0 a1 "java/lang/String" "value" "[B" .null) (P2 : Fld Z h0 a1 "java/lang/String" "coder" "B" (.int 0)) (P3 : Arv Z h0 t0 k0 .byte (3 : Int32) [(.int b0), (.int b1), (.int b2)] (.int 0)) (P4 : Exa Z h0 t0 "[B") (g_a1 : n0 ≤ a1) (na : ¬ (t0 = a1)) (m0 : ¬ (b0 < (0 : Int32))) (m1 : b1 < (0 : Int32)) (m2 : ¬ ((b1 &&& (254 : Int32)) = (194 : Int32))) (m3 : ¬ ((b1 >>> ((5 : Int32) &&& 31)) = (-2 : Int32))) (m4 : ¬ ((b1 >>> ((4 : Int32) &&& 31)) = (-2 : Int32))) (m5 : ¬ ((b1 >>> ((3 : Int32) &&& 31)) = (-2 : Int32))) (m6 : ¬ (b2 < (0 : Int32))) :
   MetFree l Wr (head1 (Jvm.Cond.codeWith Wr jdk_42_method_11_code 11 none [((800 : Nat), (813 : Nat), (816 : Nat), (202 : Nat))] :: ws) (Hb 5 2 9 76)) (fun a U => a = #[(.ref a1), (.ref Ga), (.ref t0), (.int 0), (.int 3)] ∧ Z.Warmed39 U.vm ∧ U.heap = h0) (fun _ _ _ _ _ => True) (fun _ U o U' => ∃ v L, o = .returned v ∧ D5a Z a1 t0 k0 b0 b1 b2 Ra Ya Ia Ua Ka Ga Ma Da Aa h0 n0 v U'.heap L ∧ FrameEnd U o U' L (Hb 5 2 9 76).cells (Hb 5 2 9 76).slots) := by
 refine MetFree.of_bodySF (plainFor_of_name Mb) hisWith ?_
 intro p e s m args below meth c s₁ Bd hml0 hP hK
 obtain ⟨rfl, hZ, hh⟩ := hP
 have hx := Bd.exec
 have hby := Bd.bytes
 have hml : c.maxLocals = 11 := hml0
 have hown : s.vm.findClass "java/lang/String" = some m.cls := findClass_of_methodNamed Bd.named
 have hnm := (name_of_methodNamed Bd.named Bd.method).1
 have X00 : Stand p l e (Hb 5 2 9 76) s m #[(.ref a1), (.ref Ga), (.ref t0), (.int 0), (.int 3)] below meth c s₁ [] 0 0 := Stand.of_body Bd
 have e00 : s₁.heap = h0 := by rw [← hh, Bd.state]; rfl
 have N00 := Fr.nil n0
 refine Classical.byContradiction fun hNG => ?_
 have K00 := Keep.refl h0 [a1]
 have k00 : Ab p e below m s₁ #[(.ref a1), (.ref Ga), (.ref t0), (.int 0), (.int 3)] 11 s₁ 0 #[vr a1, vr Ga, vr t0, vi 0, vi 3, .unset, .unset, .unset, .unset, .unset, .unset] [] := fun t k => castTop (Z8 m a1 Ga t0 (0 : Int32) (3 : Int32) ) k
 obtain ⟨_, _, _, _, _, _, _, _, _, _, _, _, Po, _, Vc, Mc, _, _, _, _, _, eq_UTF_8_INSTANCE⟩ := id hE
 obtain ⟨T10, X10, e10, st10⟩ := initO X00 hx hZ hown (Ba hw 64 rfl) (Ba hw 26 rfl) (Ba hw 27 rfl) e00 (g := (mkF m 1 #[vr a1, vr Ga, vr t0, vi 0, vi 3, .unset, .unset, .unset, .unset, .unset, .unset] [(.ref a1)])) rfl (by rw [hml]; rfl) rfl (hb hby Lk) (by decide) (W := 0) (by show 2 * 0 + _ ≤ _; exact Nat.le_of_eq rfl) (by decide)
 obtain ⟨T11, X11, e11, st11⟩ := getS2 X10 hx hZ hown (host := "") (Or.inl (Ba hw 65 rfl)) Via.refl e10 (Po.ext O0.2) (g := (mkF m 31 #[vr a1, vr Ga, vr t0, vi 0, vi 3, .unset, .unset, .unset, .unset, .unset, .unset] [(.ref Ga)])) rfl (hb hby Vi)
 obtain ⟨T12, X12, e12, st12⟩ := getS2 X11 hx hZ hown (host := "") (Or.inl (Ba hw 67 rfl)) Via.refl e11 (Vc.ext O0.2) (g := (mkF m 37 #[vr a1, vr Ga, vr t0, vi 0, vi 3, .unset, .unset, .unset, .unset, .unset, .unset] [])) rfl (hb hby Yi)
 obtain ⟨v13, T13, Lc13, X13, hQ13, st13⟩ := Ub X12 hx hZ hown (Wxa l Z a0 hw [] t0 k0 b0 b1 b2 _ _ _ _ _ _ _ _ _ h0 n0 O0 hE P3 m0 m1) (Ba hw 68 rfl) (Ba hw 69 rfl) (Ba hw 70 rfl) (Ba hw 71 rfl) e12 (g := (mkF m 47 #[vr a1, vr Ga, vr t0, vi 0, vi 3, .unset, .unset, .unset, .unset, .unset, .unset] [(.int 3), (.int 0), (.ref t0)])) rfl (by rw [hml]; rfl) (argsL := [(.ref t0), (.int 0), (.int 3)]) (rest := []) rfl (lenOf Bba rfl) rfl (W := 0) (by show 2 * 0 + _ ≤ _; exact Nat.le_of_eq rfl) (hb hby Gj) (by decide) (by decide) (by decide) (by decide) (by decide)
 obtain ⟨rfl, N13q, hp13⟩ := hQ13
 have N13 := Fr.app N00 N13q
 obtain ⟨v14, T14, Lc14, X14, hQ14, st14⟩ := Ub X13 hx hZ hown (B1a l Z a0 hw [] t0 k0 b0 b1 b2 _ _ _ _ _ _ _ _ _ h0 n0 O0 hE P3 P4 ) (Ba hw 72 rfl) (Ba hw 73 rfl) (Ba hw 74 rfl) (Ba hw 75 rfl) hp13 (g := (mkF m 84 #[vr a1, vr Ga, vr t0, vi 0, vi 3, vi 1, .unset, .unset, .unset, .unset, .unset] [(.int 3), (.int 0), (.ref t0)])) rfl (by rw [hml]; rfl) (argsL := [(.ref t0), (.int 0), (.int 3)]) (rest := []) rfl (lenOf A9 rfl) rfl (W := 0) (by show 2 * 0 + _ ≤ _; exact Nat.le_of_eq rfl) (hb hby Wn) (by decide) (by decide) (by decide) (by decide) (by decide)
 obtain ⟨b14, k14, rfl, N14q, O14, Kc14, g_b14, gs_b14, F14_0⟩ := hQ14
 have N14 := Fr.app N13 N14q
 have K14 := K00.trans Kc14 (fun x hx => nomatch hx)
 have s_b14 := Nat.le_trans K00.1 gs_b14
 have lt_b14 := F14_0.lt
 obtain ⟨cl15, Ar15, q15, Sz15, Nn15, Hs15, Gf15⟩ := id F14_0
 have hin16 := inb_of (j := 1) Sz15 ⟨by decide, by decide⟩
 have hat17 : cl15.slots[((1 : Int32)).toNatClampNeg]? = some (.int b1) := Hs15.at hin16 rfl
 obtain ⟨v18, T18, Lc18, X18, hQ18, st18⟩ := Ub X14 hx hZ hown (R1a l Z a0 hw []  _ _ _ _ _ _ _ _ _ T14.heap n0 O14 hE  ) (Ba hw 85 rfl) (Ba hw 86 rfl) (Ba hw 87 rfl) (Ba hw 88 rfl) rfl (g := (mkF m 228 #[vr a1, vr Ga, vr t0, vi 0, vi 3, vi 1, vr b14, vi 1, vi b1, .unset, .unset] [(.int 3)])) rfl (by rw [hml]; rfl) (argsL := [(.int 3)]) (rest := []) rfl (lenOf Aca rfl) rfl (W := 0) (by show 2 * 0 + _ ≤ _; exact Nat.le_of_eq rfl) (hb hby Dq) (by decide) (by decide) (by decide) (by decide) (by decide)
 obtain ⟨b18, k18, rfl, N18q, O18, Kc18, g_b18, gs_b18, F18_0, F18_1⟩ := hQ18
 have N18 := Fr.app N14 N18q
 have K18 := K14.trans Kc18 (fun x hx => nomatch hx)
 have s_b18 := Nat.le_trans K14.1 gs_b18
 have lt_b18 := F18_0.lt
 have ne19 : ¬ (b14 = b18) := (Nat.ne_of_lt (Nat.lt_of_lt_of_le lt_b14 gs_b18))
 have f20 := (F14_0.keep Kc18 List.not_mem_nil)
 obtain ⟨v21, T21, Lc21, X21, hQ21, st21⟩ := Ub X18 hx hZ hown (A2a l Z a0 hw [] b14 b18 k14 k18 b0 b1 b2 _ _ _ _ _ _ _ _ _ T18.heap n0 O18 hE f20 F18_0 g_b18 ne19) (Ba hw 93 rfl) (Ba hw 94 rfl) (Ba hw 95 rfl) (Ba hw 96 rfl) rfl (g := (mkF m 241 #[vr a1, vr Ga, vr t0, vi 0, vi 3, vi 1, vr b14, vi 1, vr b18, .unset, .unset] [(.int 1), (.int 0), (.ref b18), (.int 0), (.ref b14)])) rfl (by rw [hml]; rfl) (argsL := [(.ref b14), (.int 0), (.ref b18), (.int 0), (.int 1)]) (rest := []) rfl (lenOf Uz rfl) rfl (W := 0) (by show 2 * 0 + _ ≤ _; exact Nat.le_of_eq rfl) (hb hby Pq) (by decide) (by decide) (by decide) (by decide) (by decide)
 obtain ⟨rfl, N21q, O21, Kc21, F21_0⟩ := hQ21
 have N21 := Fr.app N18 N21q
 have K21 := K18.trans Kc21 (allS (Or.inr s_b18) all0)
 have f22 := (f20.keep Kc21 (fun q => ne19 (List.mem_singleton.mp q)))
 obtain ⟨v23, T23, Lc23, X23, hQ23, st23⟩ := Ub X21 hx hZ hown (Aab l Z a0 hw [] b14 b18 k14 k18 b0 b1 b2 (((b0 &&& (255 : Int32)) >>> ((0 : Int32) &&& 31)).toInt8.toInt32) (((b0 &&& (255 : Int32)) >>> ((8 : Int32) &&& 31)).toInt8.toInt32) (0 : Int32) (0 : Int32) (0 : Int32) (0 : Int32) _ _ _ _ _ _ _ _ _ T21.heap n0 O21 hE f22 F21_0 g_b18 ne19 m0 m1 m2 m3 m4 m5 m6 ) (Ba hw 120 rfl) (Ba hw 121 rfl) (Ba hw 29 rfl) (Ba hw 122 rfl) rfl (g := (mkF m 255 #[vr a1, vr Ga, vr t0, vi 0, vi 3, vi 1, vr b14, vi 1, vr b18, .unset, .unset] [(.int 1), (.int 1), (.ref b18), (.int 3), (.int 1), (.ref b14)])) rfl (by rw [hml]; rfl) (argsL := [(.ref b14), (.int 1), (.int 3), (.ref b18), (.int 1), (.int 1)]) (rest := []) rfl (lenOf Dba rfl) rfl (W := 0) (by show 2 * 0 + _ ≤ _; exact Nat.le_of_eq rfl) (hb hby Ar) (by decide) (by decide) (by decide) (by decide) (by decide)
 obtain ⟨rfl, N23q, O23, Kc23, F23_0⟩ := hQ23
 have N23 := Fr.app N21 N23q
 have K23 := K21.trans Kc23 (allS (Or.inr s_b18) all0)
 have f24 := ((((P0.keep Kc14).keep Kc18).keep Kc21).keep Kc23)
 have ne25 : ¬ (a1 = b18) := (Nat.ne_of_lt (Nat.lt_of_lt_of_le (Nat.lt_of_lt_of_le P0.lt Kc14.1) gs_b18))
 have f26 := ((((P1.keep Kc14 List.not_mem_nil).keep Kc18 List.not_mem_nil).keep Kc21 (fun q => ne25 (List.mem_singleton.mp q))).keep Kc23 (fun q => ne25 (List.mem_singleton.mp q)))
 obtain ⟨T27, h27, X27, e27, W27, st27⟩ := putF X23 hx hZ hown (host := "") (Or.inl (Ba hw 156 rfl)) Via.refl rfl f26 f24 (Or.inr ⟨(Ba hw 31 rfl), rfl, hnm⟩) (Ba hw 30 rfl) (ty := (.array .byte)) (by decide) rfl rfl (g := (mkF m 281 #[vr a1, vr Ga, vr t0, vi 0, vi 3, vi 3, vr b14, vi 1, vr b18, .unset, .unset] [(.ref b18), (.ref a1)])) rfl rfl (hb hby Lr)
 have F27_value := f26.same W27
 have N27 := Fr.snoc X27 N23 g_a1
 have O27 := O23.wr W27 g_a1
 have K27 := K23.wr W27 (Or.inl (List.mem_of_getElem? (i := 0) rfl))
 have f28 := (f24.wr W27)
 have f29 := (((((P2.keep Kc14 List.not_mem_nil).keep Kc18 List.not_mem_nil).keep Kc21 (fun q => ne25 (List.mem_singleton.mp q))).keep Kc23 (fun q => ne25 (List.mem_singleton.mp q))).other W27 (Or.inr (slot_ne (Or.inr (Ba hw 32 rfl)) (Or.inr (Ba hw 31 rfl)) (by decide) (t := .byte) (t' := (.array .byte)) (by decide) (by decide))))
 obtain ⟨T30, h30, X30, e30, W30, st30⟩ := putFN X27 hx hZ hown (Ba hw 157 rfl) Via.refl e27 f29 f28 (Or.inr ⟨(Ba hw 32 rfl), rfl, hnm⟩) (Ba hw 30 rfl) (ty := .byte) (v' := .int (1 : Int32)) (by decide) rfl (by decide) (g := (mkF m 286 #[vr a1, vr Ga, vr t0, vi 0, vi 3, vi 3, vr b14, vi 1, vr b18, .unset, .unset] [(.int 1), (.ref a1)])) rfl rfl (hb hby Rr)
 have F30_coder := f29.same W30
 have N30 := Fr.snoc X30 N27 g_a1
 have O30 := O27.wr W30 g_a1
 have K30 := K27.wr W30 (Or.inl (List.mem_of_getElem? (i := 0) rfl))
 have k31 : Ab p e below m s₁ #[(.ref a1), (.ref Ga), (.ref t0), (.int 0), (.int 3)] 11 T30 879 #[vr a1, vr Ga, vr t0, vi 0, vi 3, vi 3, vr b14, vi 1, vr b18, .unset, .unset] [] := by
  intro t k
  refine k00 t ?_
  refine Va X00 hx hby Kk rfl rfl ?_
  refine st10 _ ?_
  refine Wa X10 hx hby Mk rfl ?_
  refine XS.ifYes X10.here hx rfl (pc0 := 6) (pc' := 30) rfl (hb hby Pk) rfl ((if0 _ _).trans (feq (by decide : ¬ ((3 : Int32) = (0 : Int32)))).2) (by decide) (by decide) ?_
  refine Va X10 hx hby Ui rfl rfl ?_
  refine st11 _ ?_
  refine Jvm.RoadKit.acmp (g := (mkF m 34 #[vr a1, vr Ga, vr t0, vi 0, vi 3, .unset, .unset, .unset, .unset, .unset, .unset] [(.ref Ma), (.ref Ga)])) X11 hx rfl rfl rfl (pc0 := 34) (pc' := 37) (same := true) rfl (hb hby Wi) rfl (decide_eq_true (congrArg Value.ref eq_UTF_8_INSTANCE)) (by decide) (by decide) ?_
  refine st12 _ ?_
  refine XS.ifNo X12.here hx rfl (hb hby Zi) rfl ((if0 _ _).trans (feq Mc).1) ?_
  refine Va X12 hx hby Aj rfl rfl ?_
  refine Pa X12 hx hby Bj rfl ?_
  refine Wa X12 hx hby Dj rfl ?_
  show Za p e below m T12 47 #[vr a1, vr Ga, vr t0, vi 0, vi 3, .unset, .unset, .unset, .unset, .unset, .unset] [(.int 3), (.int 0), (.ref t0)] t
  refine st13 _ ?_
  refine XS.istore X13.here hx rfl (hb hby Hj) rfl (l' := #[vr a1, vr Ga, vr t0, vi 0, vi 3, vi 1, .unset, .unset, .unset, .unset, .unset]) rfl ?_
  refine Wa X13 hx hby Ij rfl ?_
  refine Wa X13 hx hby Kj rfl ?_
  refine XS.icmpYes X13.here hx rfl (pc0 := 56) (pc' := 78) rfl (hb hby Lj) rfl (feq (by decide : ¬ ((1 : Int32) = (3 : Int32)))).2 (by decide) (by decide) ?_
  refine Va X13 hx hby Mn rfl rfl ?_
  refine Pa X13 hx hby Pn rfl ?_
  refine Pa X13 hx hby Rn rfl ?_
  refine Wa X13 hx hby Un rfl ?_
  refine XS.iadd X13.here hx rfl (hb hby Vn) rfl ?_
  show Za p e below m T13 84 #[vr a1, vr Ga, vr t0, vi 0, vi 3, vi 1, .unset, .unset, .unset, .unset, .unset] [(.int ((0 : Int32) + (3 : Int32))), (.int 0), (.ref t0)] t
  rw [Iza]
  refine st14 _ ?_
  refine XS.astore X14.here hx rfl (hb hby Yn) rfl rfl (l' := #[vr a1, vr Ga, vr t0, vi 0, vi 3, vi 1, vr b14, .unset, .unset, .unset, .unset]) rfl ?_
  refine Wa X14 hx hby Zn rfl ?_
  refine XS.istore X14.here hx rfl (hb hby Ao) rfl (l' := #[vr a1, vr Ga, vr t0, vi 0, vi 3, vi 1, vr b14, vi 1, .unset, .unset, .unset]) rfl ?_
  refine Wa X14 hx hby Bk rfl ?_
  refine Wa X14 hx hby Dk rfl ?_
  refine XS.icmpNo X14.here hx rfl (hb hby Gk) rfl (tlt (by decide : (1 : Int32) < (3 : Int32))).2.1 ?_
  refine Dd X14 hx hby Gl rfl rfl ?_
  refine Wa X14 hx hby Hl rfl ?_
  refine XS.iinc X14.here hx rfl (hb hby Il) rfl (l' := #[vr a1, vr Ga, vr t0, vi 0, vi 3, vi 1, vr b14, vi ((1 : Int32) + (1 : Int32)), .unset, .unset, .unset]) rfl ?_
  rw [Hm]
  refine X14.baloadBytes hx (j := 1) (v := (.int b1)) (by exact Ar15.1) (State.isArrayOf_alike hZ.alike Ar15.2.1) Ar15.2.2 hin16 hat17 (g := (mkF m 107 #[vr a1, vr Ga, vr t0, vi 0, vi 3, vi 1, vr b14, vi 2, .unset, .unset, .unset] [(.int 1), (.ref b14)])) rfl rfl (hb hby Kl) _ ?_
  show Za p e below m T14 108 #[vr a1, vr Ga, vr t0, vi 0, vi 3, vi 1, vr b14, vi 2, .unset, .unset, .unset] [(.int b1)] t
  refine XS.istore X14.here hx rfl (hb hby Ll) rfl (l' := #[vr a1, vr Ga, vr t0, vi 0, vi 3, vi 1, vr b14, vi 2, vi b1, .unset, .unset]) rfl ?_
  refine Wa X14 hx hby Ml rfl ?_
  refine XS.ifYes X14.here hx rfl (pc0 := 112) (pc' := 129) rfl (hb hby Pl) rfl ((if0 _ _).trans (tlt m1).1) (by decide) (by decide) ?_
  refine Wa X14 hx hby Rl rfl ?_
  refine XS.sipush X14.here hx rfl (hb hby Ul) ?_
  refine XS.iand X14.here hx rfl (hb hby Vl) rfl ?_
  refine XS.sipush X14.here hx rfl (hb hby Wl) ?_
  refine XS.icmpYes X14.here hx rfl (pc0 := 138) (pc' := 184) rfl (hb hby Yl) rfl (feq m2).2 (by decide) (by decide) ?_
  refine XS.iinc X14.here hx rfl (hb hby Zp) rfl (l' := #[vr a1, vr Ga, vr t0, vi 0, vi 3, vi 1, vr b14, vi ((2 : Int32) + (-1 : Int32)), vi b1, .unset, .unset]) rfl ?_
  rw [Mza]
  refine XS.goto X14.here hx rfl (pc0 := 187) (pc' := 190) rfl (hb hby Aq) (by decide) (by decide) ?_
  refine Wa X14 hx hby Zl rfl ?_
  refine Wa X14 hx hby Am rfl ?_
  show Za p e below m T14 194 #[vr a1, vr Ga, vr t0, vi 0, vi 3, vi 1, vr b14, vi 1, vi b1, .unset, .unset] [(.int 3), (.int 1)] t
  refine XS.icmpYes X14.here hx rfl (pc0 := 194) (pc' := 226) rfl (hb hby Bm) rfl (feq (by decide : ¬ ((1 : Int32) = (3 : Int32)))).2 (by decide) (by decide) ?_
  refine Wa X14 hx hby Bq rfl ?_
  refine st18 _ ?_
  refine XS.astore X18.here hx rfl (hb hby Gq) rfl rfl (l' := #[vr a1, vr Ga, vr t0, vi 0, vi 3, vi 1, vr b14, vi 1, vr b18, .unset, .unset]) rfl ?_
  refine Dd X18 hx hby Hq rfl rfl ?_
  refine XS.iconst X18.here hx rfl (hb hby Iq) ?_
  refine Dd X18 hx hby Kq rfl rfl ?_
  refine XS.iconst X18.here hx rfl (hb hby Lq) ?_
  refine Wa X18 hx hby Mq rfl ?_
  refine st21 _ ?_
  refine Dd X21 hx hby Rq rfl rfl ?_
  refine Wa X21 hx hby Uq rfl ?_
  show Za p e below m T21 248 #[vr a1, vr Ga, vr t0, vi 0, vi 3, vi 1, vr b14, vi 1, vr b18, .unset, .unset] [(.int 1), (.ref b14)] t
  refine Wa X21 hx hby Vq rfl ?_
  refine Dd X21 hx hby Wq rfl rfl ?_
  refine Wa X21 hx hby Yq rfl ?_
  refine XS.iconst X21.here hx rfl (hb hby Zq) ?_
  refine st23 _ ?_
  refine XS.istore X23.here hx rfl (hb hby Br) rfl (l' := #[vr a1, vr Ga, vr t0, vi 0, vi 3, vi 3, vr b14, vi 1, vr b18, .unset, .unset]) rfl ?_
  refine Wa X23 hx hby Dr rfl ?_
  refine Wa X23 hx hby Gr rfl ?_
  refine XS.icmpYes X23.here hx rfl (pc0 := 264) (pc' := 278) rfl (hb hby Hr) rfl (teq (by decide : (3 : Int32) = (3 : Int32))).1 (by decide) (by decide) ?_
  refine Va X23 hx hby Ir rfl rfl ?_
  refine Dd X23 hx hby Kr rfl rfl ?_
  refine st27 _ ?_
  show Za p e below m T27 284 #[vr a1, vr Ga, vr t0, vi 0, vi 3, vi 3, vr b14, vi 1, vr b18, .unset, .unset] [] t
  refine Va X27 hx hby Mr rfl rfl ?_
  refine XS.iconst X27.here hx rfl (hb hby Pr) ?_
  refine st30 _ ?_
  refine XS.goto X30.here hx rfl (pc0 := 289) (pc' := 879) rfl (hb hby Ur) (by decide) (by decide) ?_
  exact k
 have f32 := (f28.wr W30)
 have f33 := (F27_value.other W30 (Or.inr (slot_ne (Or.inr (Ba hw 31 rfl)) (Or.inr (Ba hw 32 rfl)) (by decide) (t := (.array .byte)) (t' := .byte) (by decide) (by decide))))
 have f34 := ((F23_0.other W27 (Ne.symm ne25)).other W30 (Ne.symm ne25))
 obtain ⟨fs, hr, hrun, hended, hW, hsame⟩ := X30.leave (v := none) (fun _ => rfl)
 refine hNG ⟨_, _, k31 _ ?_, hrun, hended, _, _, rfl, ?_, ⟨_, rfl⟩, hW, hsame.mono (by decide) (by decide)⟩
 · exact X30.returnOut hx Bd.returns (hb hby Vr) hr
 · show D5a Z a1 t0 k0 b0 b1 b2 Ra Ya Ia Ua Ka Ga Ma Da Aa h0 n0 _ T30.heap _
   rw [e30]
   exact ⟨b18, k18, rfl, N30, O30, K30, g_b18, s_b18, f32, F30_coder, f33, f34⟩
theorem Uab (l : Launch) (Z : State) (a0 : Array Value) (hw : Pb a0 Z) (ws : List Jvm.Cond) (a1 t0 : Addr) (k0 : ClassId) (b0 b1 b2 : Int32) (Ra Ya Ia Ua Ka Ga Ma : Addr) (Da : Int32) (Aa : Value) (h0 : Heap) (n0 : Nat) (O0 : Old Z n0 h0) (hE : EV Z Ra Ya Ia Ua Ka Ga Ma Da Aa) (P0 : Exa Z h0 a1 "java/lang/String") (P1 : Fld Z h0 a1 "java/lang/String" "value" "[B" .null) (P2 : Fld Z h0 a1 "java/lang/String" "coder" "B" (.int 0)) (P3 : Arv Z h0 t0 k0 .byte (3 : Int32) [(.int b0), (.int b1), (.int b2)] (.int 0)) (P4 : Exa Z h0 t0 "[B") (g_a1 : n0 ≤ a1) (na : ¬ (t0 = a1)) (m0 : ¬ (b0 < (0 : Int32))) (m1 : b1 < (0 : Int32)) (m2 : ¬ ((b1 &&& (254 : Int32)) = (194 : Int32))) (m3 : ¬ ((b1 >>> ((5 : Int32) &&& 31)) = (-2 : Int32))) (m4 : ¬ ((b1 >>> ((4 : Int32) &&& 31)) = (-2 : Int32))) (m5 : ¬ ((b1 >>> ((3 : Int32) &&& 31)) = (-2 : Int32))) (m6 : ¬ (b2 < (0 : Int32))) :
   Ib l G6 (Jvm.Cond.code G6 jdk_42_method_49_code 3 none :: ws) (Hb 6 2 9 98) #[(.ref a1), (.ref t0), (.ref Ga)] Z h0 (fun v h L => ∃ (b : Addr) (k : ClassId), v = none ∧ Fr n0 L ∧ Old Z n0 h ∧ Keep h0 h [a1] ∧ n0 ≤ b ∧ h0.size ≤ b ∧ Exa Z h a1 "java/lang/String" ∧ Fld Z h a1 "java/lang/String" "coder" "B" (.int 1) ∧ Fld Z h a1 "java/lang/String" "value" "[B" (.ref b) ∧ Arv Z h b k .byte (6 : Int32) [(.int (((b0 &&& (255 : Int32)) >>> ((0 : Int32) &&& 31)).toInt8.toInt32)), (.int (((b0 &&& (255 : Int32)) >>> ((8 : Int32) &&& 31)).toInt8.toInt32)), (.int (((65533 : Int32) >>> ((0 : Int32) &&& 31)).toInt8.toInt32)), (.int (((65533 : Int32) >>> ((8 : Int32) &&& 31)).toInt8.toInt32)), (.int (((b2.toUInt32.toUInt16.toUInt32.toInt32) >>> ((0 : Int32) &&& 31)).toInt8.toInt32)), (.int (((b2.toUInt32.toUInt16.toUInt32.toInt32) >>> ((8 : Int32) &&& 31)).toInt8.toInt32))] (.int 0)) := by
 refine Db (plainFor_of_name Mb) n0 [a1] fun p e s m below meth c s₁ hx hby hml hown hnm hret hlk X00 e00 hZ N00 K00 hNG => ?_
 have k00 : Ab p e below m s₁ #[(.ref a1), (.ref t0), (.ref Ga)] 3 s₁ 0 #[vr a1, vr t0, vr Ga] [] := fun t k => castTop (Hba m a1 t0 Ga ) k
 obtain ⟨_, _, _, _, _, _, _, _, _, _, _, G5, _⟩ := id hE
 obtain ⟨v10, T10, Lc10, X10, hQ10, st10⟩ := Ub X00 hx hZ hown (Ywa l Z a0 hw []  _ _ _ _ _ _ _ _ _ h0 n0 O0 hE ) (Ba hw 55 rfl) (Ba hw 56 rfl) (Ba hw 37 rfl) (Ba hw 57 rfl) e00 (g := (mkF m 2 #[vr a1, vr t0, vr Ga] [(.ref Ga), (.ref a1)])) rfl (by rw [hml]; rfl) (argsL := [(.ref Ga)]) (rest := [(.ref a1)]) rfl (lenOf He rfl) rfl (W := 1) (by show 2 * 0 + _ ≤ _; exact Nat.le_of_eq rfl) (hb hby Vk) (by decide) (by decide) (by decide) (by decide) (by decide)
 obtain ⟨rfl, N10q, hp10⟩ := hQ10
 have N10 := Fr.app N00 N10q
 obtain ⟨T11, X11, e11, st11⟩ := castY X10 hx hZ hown (Ba hw 58 rfl) hp10 (Ins.of_exa (G5.ext O0.2) (Ba hw 59 rfl)) (g := (mkF m 5 #[vr a1, vr t0, vr Ga] [(.ref Ga), (.ref a1)])) rfl rfl (hb hby Wk)
 obtain ⟨cl12, Ar12, q12, Sz12, Nn12, Hs12, Gf12⟩ := id P3
 obtain ⟨_, _, ⟨T13, L13, k13, n13⟩, -, X13, ⟨Lc13, hQ13, l13, y13, z13⟩, st13⟩ := X11.specialBackH hx (y := Wr) rfl hown (mvT hZ (Ba hw 60 rfl)) (mvT hZ (Ba hw 61 rfl)) (mvT hZ (Ba hw 63 rfl)) (by decide) (backOfWith (W := 0) (Rab l Z a0 hw [] a1 t0 k0 b0 b1 b2 _ _ _ _ _ _ _ _ _ h0 n0 O0 hE P0 P1 P2 P3 P4 g_a1 na m0 m1 m2 m3 m4 m5 m6 ) hZ (Ba hw 63 rfl) (Ba hw 29 rfl) (by decide) (by decide)) (g := (mkF m 12 #[vr a1, vr t0, vr Ga] [(.int 3), (.int 0), (.ref t0), (.ref Ga), (.ref a1)])) rfl (by rw [hml]; rfl) (Steps.refl _) (a := a1) (argsL := [(.ref Ga), (.ref t0), (.int 0), (.int 3)]) (rest := []) (lenOf Ag rfl) rfl (by show 2 * 0 + _ ≤ _; exact Nat.le_of_eq rfl) (hb hby Rj) (fun _ _ => ⟨rfl, e11, (by decide : 0 + 2 ≤ _), (by decide : 0 + 9 ≤ _)⟩)
 dsimp only [Pt.U, Pt.locs, Pt.cells, Pt.slots] at X13 l13 y13 z13 st13 hQ13
 subst l13 y13 z13
 obtain ⟨b13, k13, rfl, N13q, O13, Kc13, g_b13, gs_b13, F13_0, F13_1, F13_2, F13_3⟩ := hQ13
 have N13 := Fr.app N10 N13q
 have K13 := K00.trans Kc13 (allS (Or.inl (List.mem_of_getElem? (i := 0) rfl)) all0)
 have s_b13 := Nat.le_trans K00.1 gs_b13
 have lt_b13 := F13_3.lt
 have k14 : Ab p e below m s₁ #[(.ref a1), (.ref t0), (.ref Ga)] 3 T13 15 #[vr a1, vr t0, vr Ga] [] := by
  intro t k
  refine k00 t ?_
  refine Va X00 hx hby Rk rfl rfl ?_
  refine Va X00 hx hby Uk rfl rfl ?_
  refine st10 _ ?_
  refine st11 _ ?_
  refine Va X11 hx hby Yk rfl rfl ?_
  refine XS.iconst X11.here hx rfl (hb hby Zk) ?_
  refine Va X11 hx hby Mj rfl rfl ?_
  refine X11.arraylength hx (by rw [e11]; exact Ar12.1) (State.isArrayOf_alike hZ.alike Ar12.2.1) (g := (mkF m 11 #[vr a1, vr t0, vr Ga] [(.ref t0), (.int 0), (.ref t0), (.ref Ga), (.ref a1)])) rfl rfl (hb hby Pj) _ ?_
  rw [len_of Sz12 Nn12]
  refine st13.trans ?_
  exact k
 exact Yg hNG hlk X13 rfl (by decide) (by decide) (fun fs hr => k14 _ (X13.returnOut hx hret (hb hby Uj) hr)) ⟨b13, k13, rfl, N13, O13, K13, g_b13, s_b13, F13_0, F13_1, F13_2, F13_3⟩
theorem Vab (l : Launch) (Z : State) (a0 : Array Value) (hw : Pb a0 Z) (ws : List Jvm.Cond) (u0 t0 : Addr) (k0 : ClassId) (b0 b1 b2 : Int32) (Ra Ya Ia Ua Ka Ga Ma : Addr) (Da : Int32) (Aa : Value) (h0 : Heap) (n0 : Nat) (O0 : Old Z n0 h0) (hE : EV Z Ra Ya Ia Ua Ka Ga Ma Da Aa) (P0 : Fld Z h0 u0 "com/example/attenuation/attenuation/core/Outcome" "body" "[B" (.ref t0)) (P1 : Exa Z h0 u0 "com/example/attenuation/attenuation/core/Outcome") (P2 : Arv Z h0 t0 k0 .byte (3 : Int32) [(.int b0), (.int b1), (.int b2)] (.int 0)) (P3 : Exa Z h0 t0 "[B") (m0 : ¬ (b0 < (0 : Int32))) (m1 : b1 < (0 : Int32)) (m2 : ¬ ((b1 &&& (254 : Int32)) = (194 : Int32))) (m3 : ¬ ((b1 >>> ((5 : Int32) &&& 31)) = (-2 : Int32))) (m4 : ¬ ((b1 >>> ((4 : Int32) &&& 31)) = (-2 : Int32))) (m5 : ¬ ((b1 >>> ((3 : Int32) &&& 31)) = (-2 : Int32))) (m6 : ¬ (b2 < (0 : Int32))) :
   Ib l H6 (Jvm.Cond.code H6 prog_16_method_10_code 1 (some (.object "java/lang/String")) :: ws) (Hb 7 3 13 113) #[(.ref u0)] Z h0 (fun v h L => ∃ (s : Addr) (b : Addr) (k : ClassId), v = some (.ref s) ∧ Fr n0 L ∧ Old Z n0 h ∧ Keep h0 h [] ∧ n0 ≤ s ∧ h0.size ≤ s ∧ n0 ≤ b ∧ h0.size ≤ b ∧ ¬ (s = b) ∧ Exa Z h s "java/lang/String" ∧ Fld Z h s "java/lang/String" "coder" "B" (.int 1) ∧ Fld Z h s "java/lang/String" "value" "[B" (.ref b) ∧ Arv Z h b k .byte (6 : Int32) [(.int (((b0 &&& (255 : Int32)) >>> ((0 : Int32) &&& 31)).toInt8.toInt32)), (.int (((b0 &&& (255 : Int32)) >>> ((8 : Int32) &&& 31)).toInt8.toInt32)), (.int (((65533 : Int32) >>> ((0 : Int32) &&& 31)).toInt8.toInt32)), (.int (((65533 : Int32) >>> ((8 : Int32) &&& 31)).toInt8.toInt32)), (.int (((b2.toUInt32.toUInt16.toUInt32.toInt32) >>> ((0 : Int32) &&& 31)).toInt8.toInt32)), (.int (((b2.toUInt32.toUInt16.toUInt32.toInt32) >>> ((8 : Int32) &&& 31)).toInt8.toInt32))] (.int 0)) := by
 refine Db (plainFor_of_name Gd) n0 [] fun p e s m below meth c s₁ hx hby hml hown hnm hret hlk X00 e00 hZ N00 K00 hNG => ?_
 have k00 : Ab p e below m s₁ #[(.ref u0)] 1 s₁ 0 #[vr u0] [] := fun t k => castTop (Aba m u0 ) k
 obtain ⟨_, _, _, _, _, _, _, _, _, _, H5, _⟩ := id hE
 obtain ⟨T10, h10, X10, e10, E10, A10, D10, -, st10⟩ := newO X00 hx hZ hown (Ba hw 49 rfl) (Ba hw 30 rfl) (Ba hw 29 rfl) e00 (g := (mkF m 0 #[vr u0] [])) rfl (hb hby Vj) (by decide) (by decide)
 obtain ⟨b10, g10⟩ : ∃ z, z = h0.size := ⟨_, rfl⟩
 rw [← g10] at A10 D10 st10
 have O10 := O0.ext E10
 have g_b10 : n0 ≤ b10 := Nat.le_trans (Nat.le_of_eq O0.1.symm) (Nat.le_trans O0.2.1 (Nat.le_of_eq g10.symm))
 have s_b10 : h0.size ≤ b10 := Nat.le_trans K00.1 (Nat.le_of_eq g10.symm)
 have K10 := K00.ext E10
 have lt_b10 := A10.lt
 have F10_value : Fld Z h10 b10 "java/lang/String" "value" "[B" .null := D10 (Or.inr (Ba hw 31 rfl)) (ty := (.array .byte)) (by decide)
 have F10_coder : Fld Z h10 b10 "java/lang/String" "coder" "B" (.int 0) := D10 (Or.inr (Ba hw 32 rfl)) (ty := .byte) (by decide)
 have f11 := (P0.ext E10)
 obtain ⟨T12, X12, e12, st12⟩ := getF X10 hx hZ hown (host := "") (Or.inl (Ba hw 42 rfl)) Via.refl e10 f11 (g := (mkF m 5 #[vr u0] [(.ref u0), (.ref b10), (.ref b10)])) rfl rfl (hb hby Zj)
 obtain ⟨T13, X13, e13, st13⟩ := getS2 X12 hx hZ hown (host := "") (Or.inl (Ba hw 50 rfl)) Via.refl e12 (H5.ext O10.2) (g := (mkF m 8 #[vr u0] [(.ref t0), (.ref b10), (.ref b10)])) rfl (hb hby Ak)
 have ne14 : ¬ (t0 = b10) := (Nat.ne_of_lt (Nat.lt_of_lt_of_le P2.lt (Nat.le_of_eq g10.symm)))
 have f15 := (P2.ext E10)
 have f16 := (P3.ext E10)
 obtain ⟨v17, T17, Lc17, X17, hQ17, st17⟩ := G1 X13 hx hZ hown (a := b10) (Uab l Z a0 hw [] b10 t0 k0 b0 b1 b2 _ _ _ _ _ _ _ _ _ h10 n0 O10 hE A10 F10_value F10_coder f15 f16 g_b10 ne14 m0 m1 m2 m3 m4 m5 m6 ) (Ba hw 52 rfl) (Ba hw 53 rfl) (Ba hw 29 rfl) (Ba hw 54 rfl) e13 (g := (mkF m 11 #[vr u0] [(.ref Ga), (.ref t0), (.ref b10), (.ref b10)])) rfl (by rw [hml]; rfl) (argsL := [(.ref t0), (.ref Ga)]) (rest := [(.ref b10)]) rfl (lenOf Lg rfl) rfl (W := 1) (by show 2 * 0 + _ ≤ _; exact Nat.le_of_eq rfl) (hb hby Yh) (by decide) (by decide) (by decide) (by decide) rfl (by decide)
 obtain ⟨b17, k17, rfl, N17q, O17, Kc17, g_b17, gs_b17, F17_0, F17_1, F17_2, F17_3⟩ := hQ17
 have N17 := Fr.app N00 N17q
 have K17 := K10.trans Kc17 (allS (Or.inr s_b10) all0)
 have s_b17 := Nat.le_trans K10.1 gs_b17
 have lt_b17 := F17_3.lt
 have k18 : Ab p e below m s₁ #[(.ref u0)] 1 T17 14 #[vr u0] [(.ref b10)] := by
  intro t k
  refine k00 t ?_
  refine st10 _ ?_
  refine XS.dup X10.here hx rfl (hb hby Wj) rfl rfl ?_
  refine Va X10 hx hby Yj rfl rfl ?_
  refine st12 _ ?_
  refine st13 _ ?_
  refine st17 _ ?_
  exact k
 have ne19 : ¬ (b10 = b17) := (Nat.ne_of_lt (Nat.lt_of_lt_of_le lt_b10 gs_b17))
 exact Zb (.ref b10) hNG hlk hret X17 rfl (by decide) (by decide) (fun fs hr => k18 _ (retOut X17 hx (t := (.object "java/lang/String")) hret rfl (Or.inr (Or.inr (Or.inr (Or.inr ⟨rfl, rfl, rfl⟩)))) (hb hby Zh) hr)) ⟨b10, b17, k17, rfl, N17, O17, K17, g_b10, s_b10, g_b17, s_b17, ne19, F17_0, F17_1, F17_2, F17_3⟩
abbrev Rc : ByteArray := prog_16_method_1_code
theorem Zua : decode Rc 0 = .ok (.aload_n 0, 1) := by decide +kernel
theorem Ava : decode Rc 1 = .ok (.invokespecial 1, 3) := by decide +kernel
abbrev I4 : ByteArray := jdk_30_method_1_code
theorem Zva : decode I4 0 = .ok (.aload_n 0, 1) := by decide +kernel
theorem Awa : decode I4 1 = .ok (.invokespecial 1, 3) := by decide +kernel
theorem Bwa : decode I4 4 = .ok (.return_, 1) := by decide +kernel
theorem Rxa : plainName "java/lang/Record" = true := by first | (simp [plainName, overriddenIn]; done) | decide +kernel
abbrev V3a : MethodName := ⟨"java/lang/Record", "<init>", "()V"⟩
theorem rm_f21 (l : Launch) (Z : State) (a0 : Array Value) (hw : Pb a0 Z) (ws : List Jvm.Cond) (q0 Ra Ya Ia Ua Ka Ga Ma : Addr) (Da : Int32) (Aa : Value) (h0 : Heap) (n0 : Nat) (O0 : Old Z n0 h0) (hE : EV Z Ra Ya Ia Ua Ka Ga Ma Da Aa) :
   Ib l V3a (Jvm.Cond.code V3a jdk_30_method_1_code 1 none :: ws) (Hb 1 0 0 12) #[(.ref q0)] Z h0 (fun v h L => v = none ∧ Fr n0 L ∧ h = h0) := by
 refine Db (plainFor_of_name Rxa) n0 [] fun p e s m below meth c s₁ hx hby hml hown hnm hret hlk X00 e00 hZ N00 K00 hNG => ?_
 have k00 : Ab p e below m s₁ #[(.ref q0)] 1 s₁ 0 #[vr q0] [] := fun t k => castTop (Aba m q0 ) k
 obtain ⟨T10, X10, e10, st10⟩ := initO X00 hx hZ hown (Ba hw 25 rfl) (Ba hw 26 rfl) (Ba hw 27 rfl) e00 (g := (mkF m 1 #[vr q0] [(.ref q0)])) rfl (by rw [hml]; rfl) rfl (hb hby Awa) (by decide) (W := 0) (by show 2 * 0 + _ ≤ _; exact Nat.le_of_eq rfl) (by decide)
 have k11 : Ab p e below m s₁ #[(.ref q0)] 1 T10 4 #[vr q0] [] := by
  intro t k
  refine k00 t ?_
  refine Va X00 hx hby Zva rfl rfl ?_
  refine st10 _ ?_
  exact k
 exact Yg hNG hlk X10 e10 (by decide) (by decide) (fun fs hr => k11 _ (X10.returnOut hx hret (hb hby Bwa) hr)) ⟨rfl, N00, rfl⟩
theorem pd___V : parseMethodDescriptor "()V" = some ⟨[], none⟩ := by decide +kernel
theorem Bva : decode Rc 4 = .ok (.aload_n 1, 1) := by decide +kernel
theorem W3a {Z : State} {a0 : Array Value} (hw : ∀ d ∈ tables_1, d.before a0 Z = true) : ∀ d ∈ Bundle.stringAtoms, d.before a0 Z = true := fun d hd => hw d ((by decide +kernel : ∀ d ∈ Bundle.stringAtoms, d ∈ tables_1) d hd)
theorem Dva : decode Rc 5 = .ok (.ldc 7, 2) := by decide +kernel
theorem Gva : decode Rc 7 = .ok (.invokestatic 9, 3) := by decide +kernel
abbrev Rt : ByteArray := jdk_31_method_11_code
theorem Hva : decode Rt 0 = .ok (.aload_n 0, 1) := by decide +kernel
theorem Iva : decode Rt 1 = .ok (.ifnonnull 12, 3) := by decide +kernel
theorem Upa : decode Rt 13 = .ok (.aload_n 0, 1) := by decide +kernel
theorem Vpa : decode Rt 14 = .ok (.areturn, 1) := by decide +kernel
abbrev Y3a : MethodName := ⟨"java/util/Objects", "requireNonNull", "(Ljava/lang/Object;Ljava/lang/String;)Ljava/lang/Object;"⟩
theorem G5a (l : Launch) (Z : State) (a0 : Array Value) (hw : Pb a0 Z) (ws : List Jvm.Cond) (q0 q1 Ra Ya Ia Ua Ka Ga Ma : Addr) (Da : Int32) (Aa : Value) (h0 : Heap) (n0 : Nat) (O0 : Old Z n0 h0) (hE : EV Z Ra Ya Ia Ua Ka Ga Ma Da Aa) :
   Ib l Y3a (Jvm.Cond.code Y3a jdk_31_method_11_code 2 (some (.object "java/lang/Object")) :: ws) (Hb 0 0 0 0) #[(.ref q0), (.ref q1)] Z h0 (fun v h L => v = some (.ref q0) ∧ Fr n0 L ∧ h = h0) := by
 refine Db (plainFor_of_name Vba) n0 [] fun p e s m below meth c s₁ hx hby hml hown hnm hret hlk X00 e00 hZ N00 K00 hNG => ?_
 have k00 : Ab p e below m s₁ #[(.ref q0), (.ref q1)] 2 s₁ 0 #[vr q0, vr q1] [] := fun t k => castTop (Hza m q0 q1 ) k
 have k10 : Ab p e below m s₁ #[(.ref q0), (.ref q1)] 2 s₁ 14 #[vr q0, vr q1] [(.ref q0)] := by
  intro t k
  refine k00 t ?_
  refine Va X00 hx hby Hva rfl rfl ?_
  refine XS.ifnonnullYes X00.here hx rfl (pc0 := 1) (pc' := 13) rfl (hb hby Iva) rfl (by decide) (by decide) ?_
  refine Va X00 hx hby Upa rfl rfl ?_
  exact k
 exact Zb (.ref q0) hNG hlk hret X00 e00 (by decide) (by decide) (fun fs hr => k10 _ (retOut X00 hx (t := (.object "java/lang/Object")) hret rfl (Or.inr (Or.inr (Or.inr (Or.inr ⟨rfl, rfl, rfl⟩)))) (hb hby Vpa) hr)) ⟨rfl, N00, rfl⟩
theorem Hk : parseMethodDescriptor "(Ljava/lang/Object;Ljava/lang/String;)Ljava/lang/Object;" = some ⟨[(.object "java/lang/Object"), (.object "java/lang/String")], some (.object "java/lang/Object")⟩ := by decide +kernel
theorem Wpa : decode Rc 10 = .ok (.pop, 1) := by decide +kernel
theorem Ypa : decode Rc 11 = .ok (.aload_n 2, 1) := by decide +kernel
theorem Zpa : decode Rc 12 = .ok (.ldc 15, 2) := by decide +kernel
theorem Aqa : decode Rc 14 = .ok (.invokestatic 9, 3) := by decide +kernel
theorem Bqa : decode Rc 17 = .ok (.pop, 1) := by decide +kernel
theorem Dqa : decode Rc 18 = .ok (.aload_n 0, 1) := by decide +kernel
theorem Gqa : decode Rc 19 = .ok (.aload_n 1, 1) := by decide +kernel
theorem Hqa : decode Rc 20 = .ok (.putfield 17, 3) := by decide +kernel
theorem Iqa : decode Rc 23 = .ok (.aload_n 0, 1) := by decide +kernel
theorem Kqa : decode Rc 24 = .ok (.aload_n 2, 1) := by decide +kernel
theorem Lqa : decode Rc 25 = .ok (.putfield 22, 3) := by decide +kernel
theorem Mqa : decode Rc 28 = .ok (.return_, 1) := by decide +kernel
abbrev Rba : MethodName := ⟨"com/example/attenuation/attenuation/core/Outcome", "<init>", "(Lcom/example/attenuation/attenuation/core/Outcome$Status;[B)V"⟩
def Q_oci (Z : State) (a1 r2 r3 Ra Ya Ia Ua Ka Ga Ma : Addr) (Da : Int32) (Aa : Value) (h0 : Heap) (n0 : Nat) (v : Option Value) (h : Heap) (L : List Loc) : Prop := v = none ∧ Fr n0 L ∧ Old Z n0 h ∧ Keep h0 h [a1] ∧ Exa Z h a1 "com/example/attenuation/attenuation/core/Outcome" ∧ Fld Z h a1 "com/example/attenuation/attenuation/core/Outcome" "status" "Lcom/example/attenuation/attenuation/core/Outcome$Status;" (.ref r2) ∧ Fld Z h a1 "com/example/attenuation/attenuation/core/Outcome" "body" "[B" (.ref r3)
theorem Zwa (l : Launch) (Z : State) (a0 : Array Value) (hw : ∀ d ∈ tables_1, d.before a0 Z = true) (ws : List Jvm.Cond) (a1 r2 r3 Ra Ya Ia Ua Ka Ga Ma : Addr) (Da : Int32) (Aa : Value) (h0 : Heap) (n0 : Nat) (O0 : Old Z n0 h0) (hE : EV Z Ra Ya Ia Ua Ka Ga Ma Da Aa) (Y7a : Fld Z h0 a1 "com/example/attenuation/attenuation/core/Outcome" "status" "Lcom/example/attenuation/attenuation/core/Outcome$Status;" .null) (F_body : Fld Z h0 a1 "com/example/attenuation/attenuation/core/Outcome" "body" "[B" .null) (E_a1 : Exa Z h0 a1 "com/example/attenuation/attenuation/core/Outcome") (g_a1 : n0 ≤ a1) :
   MetFree l Rba (head1 (Jvm.Cond.code Rba prog_16_method_1_code 3 none :: ws) (Hb 2 4 48 24)) (fun a U => a = #[(.ref a1), (.ref r2), (.ref r3)] ∧ Z.Warmed39 U.vm ∧ U.heap = h0) (fun _ _ _ _ _ => True) (fun _ U o U' => ∃ v L, o = .returned v ∧ Q_oci Z a1 r2 r3 Ra Ya Ia Ua Ka Ga Ma Da Aa h0 n0 v U'.heap L ∧ ReturnedEndW U o U' L (Hb 2 4 48 24).cells (Hb 2 4 48 24).slots) := by
 refine MetFree.of_bodySF (plainFor_of_name Gd) hisR ?_
 intro p e s m args below meth c s₁ Bd hml0 hP hK
 obtain ⟨rfl, hZ, hh⟩ := hP
 have hx := Bd.exec
 have hby := Bd.bytes
 have hml : c.maxLocals = 3 := hml0
 have hown : s.vm.findClass "com/example/attenuation/attenuation/core/Outcome" = some m.cls := findClass_of_methodNamed Bd.named
 have hnm := (name_of_methodNamed Bd.named Bd.method).1
 have X00 : Stand p l e (Hb 2 4 48 24) s m #[(.ref a1), (.ref r2), (.ref r3)] below meth c s₁ [] 0 0 := Stand.of_body Bd
 have e00 : s₁.heap = h0 := by rw [← hh, Bd.state]; rfl
 have N00 := Fr.nil n0
 refine Classical.byContradiction fun hNG => ?_
 have K00 := Keep.refl h0 [a1]
 have k00 : Ab p e below m s₁ #[(.ref a1), (.ref r2), (.ref r3)] 3 s₁ 0 #[vr a1, vr r2, vr r3] [] := fun t k => castTop (Hba m a1 r2 r3 ) k
 have hS : s.Since s.vm 0 := (State.WarmedH.refl s).since 0
 have X00 : Stand p l e (Hb 2 4 48 24) (s.setVm s.vm) m #[(.ref a1), (.ref r2), (.ref r3)] below meth c s₁ [] 0 0 := X00
 have hZ : Z.Warmed39 (s.setVm s.vm).vm := hZ
 have hown : (s.setVm s.vm).vm.findClass "com/example/attenuation/attenuation/core/Outcome" = some m.cls := hown
 obtain ⟨v10, T10, Lc10, X10, hQ10, st10⟩ := G1 X00 hx hZ hown (a := a1) (rm_f21 l Z a0 hw [] a1 _ _ _ _ _ _ _ _ _ h0 n0 O0 hE ) (Ba hw 20 rfl) (Ba hw 21 rfl) (Ba hw 23 rfl) (Ba hw 24 rfl) e00 (g := (mkF m 1 #[vr a1, vr r2, vr r3] [(.ref a1)])) rfl (by rw [hml]; rfl) (argsL := []) (rest := []) rfl (lenOf pd___V rfl) rfl (W := 0) (by show 2 * 0 + _ ≤ _; exact Nat.le_of_eq rfl) (hb hby Ava) (by decide) (by decide) (by decide) (by decide) rfl (by decide)
 obtain ⟨rfl, N10q, hp10⟩ := hQ10
 have N10 := Fr.app N00 N10q
 obtain ⟨a11, T11, h11, q11, X11, e11, E11, hS, hk11, hZ, hown, st11⟩ := ldcS X10 hx hZ hown (Ba hw 28 rfl) (W3a hw) hp10 hS (Nat.zero_le _) (g := (mkF m 5 #[vr a1, vr r2, vr r3] [(.ref r2)])) rfl (hb hby Dva) (n := 24) (by decide) (by decide) (by decide) (by decide)
 have O11 := O0.ext E11
 have K11 := K00.ext E11
 obtain ⟨v12, T12, Lc12, X12, hQ12, st12⟩ := Ub X11 hx hZ hown (G5a l Z a0 hw [] r2 a11 _ _ _ _ _ _ _ _ _ h11 n0 O11 hE ) (Ba hw 35 rfl) (Ba hw 36 rfl) (Ba hw 37 rfl) (Ba hw 38 rfl) e11 (g := (mkF m 7 #[vr a1, vr r2, vr r3] [(.ref a11), (.ref r2)])) rfl (by rw [hml]; rfl) (argsL := [(.ref r2), (.ref a11)]) (rest := []) rfl (lenOf Hk rfl) rfl (W := 0) (by show 2 * 0 + _ ≤ _; exact Nat.le_of_eq rfl) (hb hby Gva) (by decide) (by decide) (by decide) (by decide) (by decide)
 obtain ⟨rfl, N12q, hp12⟩ := hQ12
 have N12 := Fr.app N10 N12q
 obtain ⟨a13, T13, h13, q13, X13, e13, E13, hS, hk13, hZ, hown, st13⟩ := ldcS X12 hx hZ hown (Ba hw 39 rfl) (W3a hw) hp12 hS hk11 (g := (mkF m 12 #[vr a1, vr r2, vr r3] [(.ref r3)])) rfl (hb hby Zpa) (n := 16) (by decide) (by decide) (by decide) (by decide)
 have O13 := O11.ext E13
 have K13 := K11.ext E13
 obtain ⟨v14, T14, Lc14, X14, hQ14, st14⟩ := Ub X13 hx hZ hown (G5a l Z a0 hw [] r3 a13 _ _ _ _ _ _ _ _ _ h13 n0 O13 hE ) (Ba hw 35 rfl) (Ba hw 36 rfl) (Ba hw 37 rfl) (Ba hw 38 rfl) e13 (g := (mkF m 14 #[vr a1, vr r2, vr r3] [(.ref a13), (.ref r3)])) rfl (by rw [hml]; rfl) (argsL := [(.ref r3), (.ref a13)]) (rest := []) rfl (lenOf Hk rfl) rfl (W := 0) (by show 2 * 0 + _ ≤ _; exact Nat.le_of_eq rfl) (hb hby Aqa) (by decide) (by decide) (by decide) (by decide) (by decide)
 obtain ⟨rfl, N14q, hp14⟩ := hQ14
 have N14 := Fr.app N12 N14q
 have f15 := ((E_a1.ext E11).ext E13)
 have f16 := ((Y7a.ext E11).ext E13)
 obtain ⟨T17, h17, X17, e17, W17, st17⟩ := putF X14 hx hZ hown (host := "") (Or.inl (Ba hw 40 rfl)) Via.refl hp14 f16 f15 (Or.inr ⟨(Ba hw 41 rfl), rfl, hnm⟩) (Ba hw 15 rfl) (ty := (.object "com/example/attenuation/attenuation/core/Outcome$Status")) (by decide) rfl rfl (g := (mkF m 20 #[vr a1, vr r2, vr r3] [(.ref r2), (.ref a1)])) rfl rfl (hb hby Hqa)
 have F17_status := f16.same W17
 have N17 := Fr.snoc X17 N14 g_a1
 have O17 := O13.wr W17 g_a1
 have K17 := K13.wr W17 (Or.inl (List.mem_of_getElem? (i := 0) rfl))
 have f18 := (f15.wr W17)
 have f19 := (((F_body.ext E11).ext E13).other W17 (Or.inr (slot_ne (Or.inr (Ba hw 43 rfl)) (Or.inr (Ba hw 41 rfl)) (by decide) (t := (.array .byte)) (t' := (.object "com/example/attenuation/attenuation/core/Outcome$Status")) (by decide) (by decide))))
 obtain ⟨T20, h20, X20, e20, W20, st20⟩ := putF X17 hx hZ hown (host := "") (Or.inl (Ba hw 42 rfl)) Via.refl e17 f19 f18 (Or.inr ⟨(Ba hw 43 rfl), rfl, hnm⟩) (Ba hw 15 rfl) (ty := (.array .byte)) (by decide) rfl rfl (g := (mkF m 25 #[vr a1, vr r2, vr r3] [(.ref r3), (.ref a1)])) rfl rfl (hb hby Lqa)
 have F20_body := f19.same W20
 have N20 := Fr.snoc X20 N17 g_a1
 have O20 := O17.wr W20 g_a1
 have K20 := K17.wr W20 (Or.inl (List.mem_of_getElem? (i := 0) rfl))
 have k21 : Ab p e below m s₁ #[(.ref a1), (.ref r2), (.ref r3)] 3 T20 28 #[vr a1, vr r2, vr r3] [] := by
  intro t k
  refine k00 t ?_
  refine Va X00 hx hby Zua rfl rfl ?_
  refine st10 _ ?_
  refine Va X10 hx hby Bva rfl rfl ?_
  refine st11 _ ?_
  refine st12 _ ?_
  refine XS.pop X12.here hx rfl (hb hby Wpa) rfl rfl ?_
  refine Va X12 hx hby Ypa rfl rfl ?_
  refine st13 _ ?_
  refine st14 _ ?_
  refine XS.pop X14.here hx rfl (hb hby Bqa) rfl rfl ?_
  refine Va X14 hx hby Dqa rfl rfl ?_
  refine Va X14 hx hby Gqa rfl rfl ?_
  show Za p e below m T14 20 #[vr a1, vr r2, vr r3] [(.ref r2), (.ref a1)] t
  refine st17 _ ?_
  refine Va X17 hx hby Iqa rfl rfl ?_
  refine Va X17 hx hby Kqa rfl rfl ?_
  refine st20 _ ?_
  exact k
 have f22 := (F17_status.other W20 (Or.inr (slot_ne (Or.inr (Ba hw 41 rfl)) (Or.inr (Ba hw 43 rfl)) (by decide) (t := (.object "com/example/attenuation/attenuation/core/Outcome$Status")) (t' := (.array .byte)) (by decide) (by decide))))
 have f23 := (f18.wr W20)
 obtain ⟨fs, hr, hrun, hended, hRW⟩ := X20.leaveW hS (by rw [e20]; exact (Nat.le_trans (Nat.le_trans hk13 (Keep.of_wr W17).1) (Keep.of_wr W20).1)) (v := none) (fun _ => rfl)
 refine hNG ⟨_, _, k21 _ ?_, hrun, hended, _, _, rfl, ?_, hRW.1, hRW.2.1, hRW.2.2.1, hRW.2.2.2.mono (by decide) (by decide)⟩
 · exact X20.returnOut hx Bd.returns (hb hby Mqa) hr
 · show Q_oci Z a1 r2 r3 Ra Ya Ia Ua Ka Ga Ma Da Aa h0 n0 _ T20.heap _
   rw [e20]
   exact ⟨rfl, N20, O20, K20, f23, f22, F20_body⟩
theorem ef_I_2 (m : MethodId) (x0 : Int32)  : entryFrame m #[(.int x0)] 2 = mkF m 0 #[.val (.int x0), .unset] [] := by first | (simp [entryFrame, mkF, argsToLocals, Value.category]; done) | rfl
abbrev Kc : ByteArray := method_2_code
theorem Rza : decode Kc 0 = .ok (.iload_n 0, 1) := by decide +kernel
theorem Uza : decode Kc 1 = .ok (.ldc 7, 2) := by decide +kernel
theorem Vza : decode Kc 3 = .ok (.iand, 1) := by decide +kernel
theorem Wza : decode Kc 4 = .ok (.iconst 5, 1) := by decide +kernel
theorem Yza : decode Kc 5 = .ok (.irem, 1) := by decide +kernel
theorem Zza : decode Kc 6 = .ok (.istore_n 1, 1) := by decide +kernel
theorem A0a : decode Kc 7 = .ok (.iload_n 1, 1) := by decide +kernel
theorem Wqa : decode Kc 8 = .ok (.ifCond .ne 7, 3) := by decide +kernel
theorem Aya : decode Kc 11 = .ok (.getstatic 8, 3) := by decide +kernel
theorem Bya : decode Kc 14 = .ok (.areturn, 1) := by decide +kernel
theorem Dya : decode Kc 15 = .ok (.iload_n 1, 1) := by decide +kernel
theorem Gya : decode Kc 16 = .ok (.iconst 1, 1) := by decide +kernel
theorem Rka : decode Kc 17 = .ok (.if_icmp .ne 7, 3) := by decide +kernel
theorem Hya : decode Kc 20 = .ok (.getstatic 14, 3) := by decide +kernel
theorem Iya : decode Kc 23 = .ok (.areturn, 1) := by decide +kernel
theorem Kya : decode Kc 24 = .ok (.iload_n 1, 1) := by decide +kernel
theorem Lya : decode Kc 25 = .ok (.iconst 2, 1) := by decide +kernel
theorem Uka : decode Kc 26 = .ok (.if_icmp .ne 7, 3) := by decide +kernel
theorem Mya : decode Kc 29 = .ok (.getstatic 17, 3) := by decide +kernel
theorem Pya : decode Kc 32 = .ok (.areturn, 1) := by decide +kernel
theorem Rya : decode Kc 33 = .ok (.iload_n 1, 1) := by decide +kernel
theorem Uya : decode Kc 34 = .ok (.iconst 3, 1) := by decide +kernel
theorem Vka : decode Kc 35 = .ok (.if_icmp .ne 7, 3) := by decide +kernel
theorem Vya : decode Kc 38 = .ok (.getstatic 20, 3) := by decide +kernel
theorem Wya : decode Kc 41 = .ok (.areturn, 1) := by decide +kernel
theorem Yya : decode Kc 42 = .ok (.getstatic 23, 3) := by decide +kernel
theorem Zya : decode Kc 45 = .ok (.areturn, 1) := by decide +kernel
theorem Ai : plainName "com/example/attenuation/attenuation/core/OutcomeTextPinLaw" = true := by first | (simp [plainName, overriddenIn]; done) | decide +kernel
abbrev Z3a : MethodName := ⟨"com/example/attenuation/attenuation/core/OutcomeTextPinLaw", "status", "(I)Lcom/example/attenuation/attenuation/core/Outcome$Status;"⟩
theorem rm_stt (l : Launch) (Z : State) (a0 : Array Value) (hw : Pb a0 Z) (ws : List Jvm.Cond) (q0 : Int32) (Ra Ya Ia Ua Ka Ga Ma : Addr) (Da : Int32) (Aa : Value) (h0 : Heap) (n0 : Nat) (O0 : Old Z n0 h0) (hE : EV Z Ra Ya Ia Ua Ka Ga Ma Da Aa) :
   Ib l Z3a (Jvm.Cond.code Z3a method_2_code 2 (some (.object "com/example/attenuation/attenuation/core/Outcome$Status")) :: ws) (Hb 0 0 0 0) #[(.int q0)] Z h0 (fun v h L => ∃ (b : Addr), v = some (.ref b) ∧ Fr n0 L ∧ Old Z n0 h ∧ Keep h0 h [] ∧ Exa Z h b "com/example/attenuation/attenuation/core/Outcome$Status") := by
 refine Db (plainFor_of_name Ai) n0 [] fun p e s m below meth c s₁ hx hby hml hown hnm hret hlk X00 e00 hZ N00 K00 hNG => ?_
 have k00 : Ab p e below m s₁ #[(.int q0)] 2 s₁ 0 #[vi q0, .unset] [] := fun t k => castTop (ef_I_2 m q0 ) k
 obtain ⟨I0a, K0a, D2a, G2a, Pqa, Rqa, L0a, M0a, Uqa, Vqa, _⟩ := id hE
 have k10 : Ab p e below m s₁ #[(.int q0)] 2 s₁ 8 #[vi q0, vi ((q0 &&& (2147483647 : Int32)) % (5 : Int32))] [(.int ((q0 &&& (2147483647 : Int32)) % (5 : Int32)))] := by
  intro t k
  refine k00 t ?_
  refine Pa X00 hx hby Rza rfl ?_
  refine X00.ldcI hx hown (mvT hZ (Ba hw 0 rfl)) rfl (hb hby Uza) ?_
  refine XS.iand X00.here hx rfl (hb hby Vza) rfl ?_
  refine XS.iconst X00.here hx rfl (hb hby Wza) ?_
  refine iremM X00 hx rfl (hb hby Yza) rfl (by decide) ?_
  refine XS.istoreN X00.here hx rfl (hb hby Zza) rfl (l' := #[vi q0, vi ((q0 &&& (2147483647 : Int32)) % (5 : Int32))]) rfl ?_
  refine Pa X00 hx hby A0a rfl ?_
  exact k
 by_cases hc11 : ((q0 &&& (2147483647 : Int32)) % (5 : Int32)) = (0 : Int32)
 · obtain ⟨T12, X12, e12, st12⟩ := getS2 X00 hx hZ hown (host := "") (Or.inl (Ba hw 190 rfl)) Via.refl e00 (D2a.ext O0.2) (g := (mkF m 11 #[vi q0, vi ((q0 &&& (2147483647 : Int32)) % (5 : Int32))] [])) rfl (hb hby Aya)
   have k13 : Ab p e below m s₁ #[(.int q0)] 2 T12 14 #[vi q0, vi ((q0 &&& (2147483647 : Int32)) % (5 : Int32))] [(.ref Ya)] := by
    intro t k
    refine k10 t ?_
    refine XS.ifNo X00.here hx rfl (hb hby Wqa) rfl ((if0 _ _).trans (teq hc11).2) ?_
    refine st12 _ ?_
    exact k
   exact Zb (.ref Ya) hNG hlk hret X12 e12 (by decide) (by decide) (fun fs hr => k13 _ (retOut X12 hx (t := (.object "com/example/attenuation/attenuation/core/Outcome$Status")) hret rfl (Or.inr (Or.inr (Or.inr (Or.inr ⟨rfl, rfl, rfl⟩)))) (hb hby Bya) hr)) ⟨Ya, rfl, N00, O0, K00, (G2a.ext O0.2)⟩
 · have k14 : Ab p e below m s₁ #[(.int q0)] 2 s₁ 17 #[vi q0, vi ((q0 &&& (2147483647 : Int32)) % (5 : Int32))] [(.int 1), (.int ((q0 &&& (2147483647 : Int32)) % (5 : Int32)))] := by
    intro t k
    refine k10 t ?_
    refine XS.ifYes X00.here hx rfl (pc0 := 8) (pc' := 15) rfl (hb hby Wqa) rfl ((if0 _ _).trans (feq hc11).2) (by decide) (by decide) ?_
    refine Pa X00 hx hby Dya rfl ?_
    refine XS.iconst X00.here hx rfl (hb hby Gya) ?_
    exact k
   by_cases hc15 : ((q0 &&& (2147483647 : Int32)) % (5 : Int32)) = (1 : Int32)
   · obtain ⟨T16, X16, e16, st16⟩ := getS2 X00 hx hZ hown (host := "") (Or.inl (Ba hw 5 rfl)) Via.refl e00 (I0a.ext O0.2) (g := (mkF m 20 #[vi q0, vi ((q0 &&& (2147483647 : Int32)) % (5 : Int32))] [])) rfl (hb hby Hya)
     have k17 : Ab p e below m s₁ #[(.int q0)] 2 T16 23 #[vi q0, vi ((q0 &&& (2147483647 : Int32)) % (5 : Int32))] [(.ref Ra)] := by
      intro t k
      refine k14 t ?_
      refine XS.icmpNo X00.here hx rfl (hb hby Rka) rfl (teq hc15).2 ?_
      refine st16 _ ?_
      exact k
     exact Zb (.ref Ra) hNG hlk hret X16 e16 (by decide) (by decide) (fun fs hr => k17 _ (retOut X16 hx (t := (.object "com/example/attenuation/attenuation/core/Outcome$Status")) hret rfl (Or.inr (Or.inr (Or.inr (Or.inr ⟨rfl, rfl, rfl⟩)))) (hb hby Iya) hr)) ⟨Ra, rfl, N00, O0, K00, (K0a.ext O0.2)⟩
   · have k18 : Ab p e below m s₁ #[(.int q0)] 2 s₁ 26 #[vi q0, vi ((q0 &&& (2147483647 : Int32)) % (5 : Int32))] [(.int 2), (.int ((q0 &&& (2147483647 : Int32)) % (5 : Int32)))] := by
      intro t k
      refine k14 t ?_
      refine XS.icmpYes X00.here hx rfl (pc0 := 17) (pc' := 24) rfl (hb hby Rka) rfl (feq hc15).2 (by decide) (by decide) ?_
      refine Pa X00 hx hby Kya rfl ?_
      refine XS.iconst X00.here hx rfl (hb hby Lya) ?_
      exact k
     by_cases hc19 : ((q0 &&& (2147483647 : Int32)) % (5 : Int32)) = (2 : Int32)
     · obtain ⟨T20, X20, e20, st20⟩ := getS2 X00 hx hZ hown (host := "") (Or.inl (Ba hw 204 rfl)) Via.refl e00 (Uqa.ext O0.2) (g := (mkF m 29 #[vi q0, vi ((q0 &&& (2147483647 : Int32)) % (5 : Int32))] [])) rfl (hb hby Mya)
       have k21 : Ab p e below m s₁ #[(.int q0)] 2 T20 32 #[vi q0, vi ((q0 &&& (2147483647 : Int32)) % (5 : Int32))] [(.ref Ka)] := by
        intro t k
        refine k18 t ?_
        refine XS.icmpNo X00.here hx rfl (hb hby Uka) rfl (teq hc19).2 ?_
        refine st20 _ ?_
        exact k
       exact Zb (.ref Ka) hNG hlk hret X20 e20 (by decide) (by decide) (fun fs hr => k21 _ (retOut X20 hx (t := (.object "com/example/attenuation/attenuation/core/Outcome$Status")) hret rfl (Or.inr (Or.inr (Or.inr (Or.inr ⟨rfl, rfl, rfl⟩)))) (hb hby Pya) hr)) ⟨Ka, rfl, N00, O0, K00, (Vqa.ext O0.2)⟩
     · have k22 : Ab p e below m s₁ #[(.int q0)] 2 s₁ 35 #[vi q0, vi ((q0 &&& (2147483647 : Int32)) % (5 : Int32))] [(.int 3), (.int ((q0 &&& (2147483647 : Int32)) % (5 : Int32)))] := by
        intro t k
        refine k18 t ?_
        refine XS.icmpYes X00.here hx rfl (pc0 := 26) (pc' := 33) rfl (hb hby Uka) rfl (feq hc19).2 (by decide) (by decide) ?_
        refine Pa X00 hx hby Rya rfl ?_
        refine XS.iconst X00.here hx rfl (hb hby Uya) ?_
        exact k
       by_cases hc23 : ((q0 &&& (2147483647 : Int32)) % (5 : Int32)) = (3 : Int32)
       · obtain ⟨T24, X24, e24, st24⟩ := getS2 X00 hx hZ hown (host := "") (Or.inl (Ba hw 202 rfl)) Via.refl e00 (L0a.ext O0.2) (g := (mkF m 38 #[vi q0, vi ((q0 &&& (2147483647 : Int32)) % (5 : Int32))] [])) rfl (hb hby Vya)
         have k25 : Ab p e below m s₁ #[(.int q0)] 2 T24 41 #[vi q0, vi ((q0 &&& (2147483647 : Int32)) % (5 : Int32))] [(.ref Ua)] := by
          intro t k
          refine k22 t ?_
          refine XS.icmpNo X00.here hx rfl (hb hby Vka) rfl (teq hc23).2 ?_
          refine st24 _ ?_
          exact k
         exact Zb (.ref Ua) hNG hlk hret X24 e24 (by decide) (by decide) (fun fs hr => k25 _ (retOut X24 hx (t := (.object "com/example/attenuation/attenuation/core/Outcome$Status")) hret rfl (Or.inr (Or.inr (Or.inr (Or.inr ⟨rfl, rfl, rfl⟩)))) (hb hby Wya) hr)) ⟨Ua, rfl, N00, O0, K00, (M0a.ext O0.2)⟩
       · obtain ⟨T26, X26, e26, st26⟩ := getS2 X00 hx hZ hown (host := "") (Or.inl (Ba hw 194 rfl)) Via.refl e00 (Pqa.ext O0.2) (g := (mkF m 42 #[vi q0, vi ((q0 &&& (2147483647 : Int32)) % (5 : Int32))] [])) rfl (hb hby Yya)
         have k27 : Ab p e below m s₁ #[(.int q0)] 2 T26 45 #[vi q0, vi ((q0 &&& (2147483647 : Int32)) % (5 : Int32))] [(.ref Ia)] := by
          intro t k
          refine k22 t ?_
          refine XS.icmpYes X00.here hx rfl (pc0 := 35) (pc' := 42) rfl (hb hby Vka) rfl (feq hc23).2 (by decide) (by decide) ?_
          refine st26 _ ?_
          exact k
         exact Zb (.ref Ia) hNG hlk hret X26 e26 (by decide) (by decide) (fun fs hr => k27 _ (retOut X26 hx (t := (.object "com/example/attenuation/attenuation/core/Outcome$Status")) hret rfl (Or.inr (Or.inr (Or.inr (Or.inr ⟨rfl, rfl, rfl⟩)))) (hb hby Zya) hr)) ⟨Ia, rfl, N00, O0, K00, (Rqa.ext O0.2)⟩
theorem Vva (m : MethodId) (x0 : Addr) (x1 : Addr)  : entryFrame m #[(.ref x0), (.ref x1)] 3 = mkF m 0 #[.val (.ref x0), .val (.ref x1), .unset] [] := by first | (simp [entryFrame, mkF, argsToLocals, Value.category]; done) | rfl
abbrev Wb : ByteArray := jdk_43_method_13_code
theorem K4 : decode Wb 0 = .ok (.aload_n 0, 1) := by decide +kernel
theorem L4 : decode Wb 1 = .ok (.arraylength, 1) := by decide +kernel
theorem M4 : decode Wb 2 = .ok (.aload_n 1, 1) := by decide +kernel
theorem R4 : decode Wb 3 = .ok (.arraylength, 1) := by decide +kernel
theorem U4 : decode Wb 4 = .ok (.if_icmp .ne 30, 3) := by decide +kernel
theorem V4 : decode Wb 7 = .ok (.iconst 0, 1) := by decide +kernel
theorem W4 : decode Wb 8 = .ok (.istore_n 2, 1) := by decide +kernel
theorem Hd : decode Wb 9 = .ok (.iload_n 2, 1) := by decide +kernel
theorem Yc : decode Wb 10 = .ok (.aload_n 0, 1) := by decide +kernel
theorem Zc : decode Wb 11 = .ok (.arraylength, 1) := by decide +kernel
theorem Ad : decode Wb 12 = .ok (.if_icmp .ge 20, 3) := by decide +kernel
theorem Rd : decode Wb 15 = .ok (.aload_n 0, 1) := by decide +kernel
theorem Ud : decode Wb 16 = .ok (.iload_n 2, 1) := by decide +kernel
theorem Vd : decode Wb 17 = .ok (.baload, 1) := by decide +kernel
theorem Wd : decode Wb 18 = .ok (.aload_n 1, 1) := by decide +kernel
theorem Yd : decode Wb 19 = .ok (.iload_n 2, 1) := by decide +kernel
theorem Zd : decode Wb 20 = .ok (.baload, 1) := by decide +kernel
theorem Ae : decode Wb 21 = .ok (.if_icmp .eq 5, 3) := by decide +kernel
theorem Be : decode Wb 26 = .ok (.iinc 2 1, 3) := by decide +kernel
theorem De : decode Wb 29 = .ok (.goto (-20), 3) := by decide +kernel
theorem Vz : decode Wb 32 = .ok (.iconst 1, 1) := by decide +kernel
theorem Wz : decode Wb 33 = .ok (.ireturn, 1) := by decide +kernel
abbrev Wva : MethodName := ⟨"java/lang/StringLatin1", "equals", "([B[B)Z"⟩
theorem rm_le2 (l : Launch) (Z : State) (a0 : Array Value) (hw : Pb a0 Z) (ws : List Jvm.Cond) (v0 v1 : Addr) (kv kw : ClassId) (e0 e1 f0 f1 : Int32) (Ra Ya Ia Ua Ka Ga Ma : Addr) (Da : Int32) (Aa : Value) (h0 : Heap) (n0 : Nat) (O0 : Old Z n0 h0) (hE : EV Z Ra Ya Ia Ua Ka Ga Ma Da Aa) (P0 : Arv Z h0 v0 kv .byte (2 : Int32) [(.int e0), (.int e1)] (.int 0)) (P1 : Arv Z h0 v1 kw .byte (2 : Int32) [(.int f0), (.int f1)] (.int 0)) (me0 : e0 = f0) (me1 : e1 = f1) :
   Ib l Wva (Jvm.Cond.code Wva jdk_43_method_13_code 3 (some .boolean) :: ws) (Hb 0 0 0 0) #[(.ref v0), (.ref v1)] Z h0 (fun v h L => v = some (.int 1) ∧ Fr n0 L ∧ h = h0) := by
 refine Db (plainFor_of_name Ik) n0 [] fun p e s m below meth c s₁ hx hby hml hown hnm hret hlk X00 e00 hZ N00 K00 hNG => ?_
 have k00 : Ab p e below m s₁ #[(.ref v0), (.ref v1)] 3 s₁ 0 #[vr v0, vr v1, .unset] [] := fun t k => castTop (Vva m v0 v1 ) k
 obtain ⟨cl10, Ar10, q10, Sz10, Nn10, Hs10, Gf10⟩ := id P0
 obtain ⟨cl11, Ar11, q11, Sz11, Nn11, Hs11, Gf11⟩ := id P1
 obtain ⟨cl12, Ar12, q12, Sz12, Nn12, Hs12, Gf12⟩ := id P0
 obtain ⟨cl13, Ar13, q13, Sz13, Nn13, Hs13, Gf13⟩ := id P0
 have hin14 := inb_of (j := 0) Sz13 ⟨by decide, by decide⟩
 have hat15 : cl13.slots[((0 : Int32)).toNatClampNeg]? = some (.int e0) := Hs13.at hin14 rfl
 obtain ⟨cl16, Ar16, q16, Sz16, Nn16, Hs16, Gf16⟩ := id P1
 have hin17 := inb_of (j := 0) Sz16 ⟨by decide, by decide⟩
 have hat18 : cl16.slots[((0 : Int32)).toNatClampNeg]? = some (.int f0) := Hs16.at hin17 rfl
 obtain ⟨cl19, Ar19, q19, Sz19, Nn19, Hs19, Gf19⟩ := id P0
 obtain ⟨cl20, Ar20, q20, Sz20, Nn20, Hs20, Gf20⟩ := id P0
 have hin21 := inb_of (j := 1) Sz20 ⟨by decide, by decide⟩
 have hat22 : cl20.slots[((1 : Int32)).toNatClampNeg]? = some (.int e1) := Hs20.at hin21 rfl
 obtain ⟨cl23, Ar23, q23, Sz23, Nn23, Hs23, Gf23⟩ := id P1
 have hin24 := inb_of (j := 1) Sz23 ⟨by decide, by decide⟩
 have hat25 : cl23.slots[((1 : Int32)).toNatClampNeg]? = some (.int f1) := Hs23.at hin24 rfl
 obtain ⟨cl26, Ar26, q26, Sz26, Nn26, Hs26, Gf26⟩ := id P0
 have k27 : Ab p e below m s₁ #[(.ref v0), (.ref v1)] 3 s₁ 33 #[vr v0, vr v1, vi 2] [(.int 1)] := by
  intro t k
  refine k00 t ?_
  refine Va X00 hx hby K4 rfl rfl ?_
  refine X00.arraylength hx (by rw [e00]; exact Ar10.1) (State.isArrayOf_alike hZ.alike Ar10.2.1) (g := (mkF m 1 #[vr v0, vr v1, .unset] [(.ref v0)])) rfl rfl (hb hby L4) _ ?_
  rw [len_of Sz10 Nn10]
  refine Va X00 hx hby M4 rfl rfl ?_
  refine X00.arraylength hx (by rw [e00]; exact Ar11.1) (State.isArrayOf_alike hZ.alike Ar11.2.1) (g := (mkF m 3 #[vr v0, vr v1, .unset] [(.ref v1), (.int 2)])) rfl rfl (hb hby R4) _ ?_
  rw [len_of Sz11 Nn11]
  refine XS.icmpNo X00.here hx rfl (hb hby U4) rfl (teq (by decide : (2 : Int32) = (2 : Int32))).2 ?_
  refine XS.iconst X00.here hx rfl (hb hby V4) ?_
  refine XS.istoreN X00.here hx rfl (hb hby W4) rfl (l' := #[vr v0, vr v1, vi 0]) rfl ?_
  refine Pa X00 hx hby Hd rfl ?_
  refine Va X00 hx hby Yc rfl rfl ?_
  refine X00.arraylength hx (by rw [e00]; exact Ar12.1) (State.isArrayOf_alike hZ.alike Ar12.2.1) (g := (mkF m 11 #[vr v0, vr v1, vi 0] [(.ref v0), (.int 0)])) rfl rfl (hb hby Zc) _ ?_
  rw [len_of Sz12 Nn12]
  refine XS.icmpNo X00.here hx rfl (hb hby Ad) rfl (tlt (by decide : (0 : Int32) < (2 : Int32))).2.1 ?_
  refine Va X00 hx hby Rd rfl rfl ?_
  show Za p e below m s₁ 16 #[vr v0, vr v1, vi 0] [(.ref v0)] t
  refine Pa X00 hx hby Ud rfl ?_
  refine X00.baloadBytes hx (j := 0) (v := (.int e0)) (by rw [e00]; exact Ar13.1) (State.isArrayOf_alike hZ.alike Ar13.2.1) Ar13.2.2 hin14 hat15 (g := (mkF m 17 #[vr v0, vr v1, vi 0] [(.int 0), (.ref v0)])) rfl rfl (hb hby Vd) _ ?_
  refine Va X00 hx hby Wd rfl rfl ?_
  refine Pa X00 hx hby Yd rfl ?_
  refine X00.baloadBytes hx (j := 0) (v := (.int f0)) (by rw [e00]; exact Ar16.1) (State.isArrayOf_alike hZ.alike Ar16.2.1) Ar16.2.2 hin17 hat18 (g := (mkF m 20 #[vr v0, vr v1, vi 0] [(.int 0), (.ref v1), (.int e0)])) rfl rfl (hb hby Zd) _ ?_
  refine XS.icmpYes X00.here hx rfl (pc0 := 21) (pc' := 26) rfl (hb hby Ae) rfl (teq me0).1 (by decide) (by decide) ?_
  refine XS.iinc X00.here hx rfl (hb hby Be) rfl (l' := #[vr v0, vr v1, vi ((0 : Int32) + (1 : Int32))]) rfl ?_
  rw [Mh]
  refine XS.goto X00.here hx rfl (pc0 := 29) (pc' := 9) rfl (hb hby De) (by decide) (by decide) ?_
  refine Pa X00 hx hby Hd rfl ?_
  refine Va X00 hx hby Yc rfl rfl ?_
  refine X00.arraylength hx (by rw [e00]; exact Ar19.1) (State.isArrayOf_alike hZ.alike Ar19.2.1) (g := (mkF m 11 #[vr v0, vr v1, vi 1] [(.ref v0), (.int 1)])) rfl rfl (hb hby Zc) _ ?_
  rw [len_of Sz19 Nn19]
  refine XS.icmpNo X00.here hx rfl (hb hby Ad) rfl (tlt (by decide : (1 : Int32) < (2 : Int32))).2.1 ?_
  show Za p e below m s₁ 15 #[vr v0, vr v1, vi 1] [] t
  refine Va X00 hx hby Rd rfl rfl ?_
  refine Pa X00 hx hby Ud rfl ?_
  refine X00.baloadBytes hx (j := 1) (v := (.int e1)) (by rw [e00]; exact Ar20.1) (State.isArrayOf_alike hZ.alike Ar20.2.1) Ar20.2.2 hin21 hat22 (g := (mkF m 17 #[vr v0, vr v1, vi 1] [(.int 1), (.ref v0)])) rfl rfl (hb hby Vd) _ ?_
  refine Va X00 hx hby Wd rfl rfl ?_
  refine Pa X00 hx hby Yd rfl ?_
  refine X00.baloadBytes hx (j := 1) (v := (.int f1)) (by rw [e00]; exact Ar23.1) (State.isArrayOf_alike hZ.alike Ar23.2.1) Ar23.2.2 hin24 hat25 (g := (mkF m 20 #[vr v0, vr v1, vi 1] [(.int 1), (.ref v1), (.int e1)])) rfl rfl (hb hby Zd) _ ?_
  refine XS.icmpYes X00.here hx rfl (pc0 := 21) (pc' := 26) rfl (hb hby Ae) rfl (teq me1).1 (by decide) (by decide) ?_
  refine XS.iinc X00.here hx rfl (hb hby Be) rfl (l' := #[vr v0, vr v1, vi ((1 : Int32) + (1 : Int32))]) rfl ?_
  rw [Hm]
  refine XS.goto X00.here hx rfl (pc0 := 29) (pc' := 9) rfl (hb hby De) (by decide) (by decide) ?_
  refine Pa X00 hx hby Hd rfl ?_
  refine Va X00 hx hby Yc rfl rfl ?_
  refine X00.arraylength hx (by rw [e00]; exact Ar26.1) (State.isArrayOf_alike hZ.alike Ar26.2.1) (g := (mkF m 11 #[vr v0, vr v1, vi 2] [(.ref v0), (.int 2)])) rfl rfl (hb hby Zc) _ ?_
  rw [len_of Sz26 Nn26]
  show Za p e below m s₁ 12 #[vr v0, vr v1, vi 2] [(.int 2), (.int 2)] t
  refine XS.icmpYes X00.here hx rfl (pc0 := 12) (pc' := 32) rfl (hb hby Ad) rfl (flt (by decide : ¬ ((2 : Int32) < (2 : Int32)))).2.1 (by decide) (by decide) ?_
  refine XS.iconst X00.here hx rfl (hb hby Vz) ?_
  exact k
 exact Zb (.int 1) hNG hlk hret X00 e00 (by decide) (by decide) (fun fs hr => k27 _ (retN X00 hx (t := .boolean) hret (by simp) (hb hby Wz) hr)) ⟨rfl, N00, rfl⟩
abbrev Lb : ByteArray := jdk_42_method_66_code
theorem Y4 : decode Lb 0 = .ok (.aload_n 0, 1) := by decide +kernel
theorem Z4 : decode Lb 1 = .ok (.aload_n 1, 1) := by decide +kernel
theorem A5 : decode Lb 2 = .ok (.if_acmp .ne 5, 3) := by decide +kernel
theorem B5 : decode Lb 7 = .ok (.aload_n 1, 1) := by decide +kernel
theorem D5 : decode Lb 8 = .ok (.instanceof 10, 3) := by decide +kernel
theorem Yz : decode Lb 11 = .ok (.ifCond .eq 43, 3) := by decide +kernel
theorem Zz : decode Lb 14 = .ok (.aload_n 1, 1) := by decide +kernel
theorem A0 : decode Lb 15 = .ok (.checkcast 10, 3) := by decide +kernel
theorem B0 : decode Lb 18 = .ok (.astore_n 2, 1) := by decide +kernel
theorem D0 : decode Lb 19 = .ok (.getstatic 38, 3) := by decide +kernel
theorem G0 : decode Lb 22 = .ok (.ifCond .eq 14, 3) := by decide +kernel
theorem H0 : decode Lb 25 = .ok (.aload_n 0, 1) := by decide +kernel
theorem I0 : decode Lb 26 = .ok (.getfield 15, 3) := by decide +kernel
theorem K0 : decode Lb 29 = .ok (.aload_n 2, 1) := by decide +kernel
theorem L0 : decode Lb 30 = .ok (.getfield 15, 3) := by decide +kernel
theorem M0 : decode Lb 33 = .ok (.if_icmp .ne 21, 3) := by decide +kernel
theorem R0 : decode Lb 36 = .ok (.aload_n 0, 1) := by decide +kernel
theorem U0 : decode Lb 37 = .ok (.getfield 9, 3) := by decide +kernel
theorem V0 : decode Lb 40 = .ok (.aload_n 2, 1) := by decide +kernel
theorem W0 : decode Lb 41 = .ok (.getfield 9, 3) := by decide +kernel
theorem Y0 : decode Lb 44 = .ok (.invokestatic 541, 3) := by decide +kernel
theorem Kxa : parseMethodDescriptor "([B[B)Z" = some ⟨[(.array .byte), (.array .byte)], some .boolean⟩ := by decide +kernel
theorem Z0 : decode Lb 47 = .ok (.ifCond .eq 7, 3) := by decide +kernel
theorem A1 : decode Lb 50 = .ok (.iconst 1, 1) := by decide +kernel
theorem B1 : decode Lb 51 = .ok (.goto 4, 3) := by decide +kernel
theorem D1 : decode Lb 55 = .ok (.ireturn, 1) := by decide +kernel
abbrev Yva : MethodName := ⟨"java/lang/String", "equals", "(Ljava/lang/Object;)Z"⟩
theorem H5a (l : Launch) (Z : State) (a0 : Array Value) (hw : Pb a0 Z) (ws : List Jvm.Cond) (s0 s1 v0 v1 : Addr) (kv kw : ClassId) (e0 e1 f0 f1 : Int32) (Ra Ya Ia Ua Ka Ga Ma : Addr) (Da : Int32) (Aa : Value) (h0 : Heap) (n0 : Nat) (O0 : Old Z n0 h0) (hE : EV Z Ra Ya Ia Ua Ka Ga Ma Da Aa) (P0 : Exa Z h0 s0 "java/lang/String") (P1 : Fld Z h0 s0 "java/lang/String" "coder" "B" (.int 0)) (P2 : Fld Z h0 s0 "java/lang/String" "value" "[B" (.ref v0)) (P3 : Arv Z h0 v0 kv .byte (2 : Int32) [(.int e0), (.int e1)] (.int 0)) (P4 : Exa Z h0 s1 "java/lang/String") (P5 : Fld Z h0 s1 "java/lang/String" "coder" "B" (.int 0)) (P6 : Fld Z h0 s1 "java/lang/String" "value" "[B" (.ref v1)) (P7 : Arv Z h0 v1 kw .byte (2 : Int32) [(.int f0), (.int f1)] (.int 0)) (ms : ¬ (s0 = s1)) (me0 : e0 = f0) (me1 : e1 = f1) :
   Ib l Yva (Jvm.Cond.code Yva jdk_42_method_66_code 3 (some .boolean) :: ws) (Hb 1 0 0 14) #[(.ref s0), (.ref s1)] Z h0 (fun v h L => v = some (.int 1) ∧ Fr n0 L ∧ h = h0) := by
 refine Db (plainFor_of_name Mb) n0 [] fun p e s m below meth c s₁ hx hby hml hown hnm hret hlk X00 e00 hZ N00 K00 hNG => ?_
 have k00 : Ab p e below m s₁ #[(.ref s0), (.ref s1)] 3 s₁ 0 #[vr s0, vr s1, .unset] [] := fun t k => castTop (Vva m s0 s1 ) k
 obtain ⟨_, _, _, _, _, _, _, _, _, _, _, _, _, _, Vc, Mc, _⟩ := id hE
 obtain ⟨T10, X10, e10, st10⟩ := instY X00 hx hZ hown (Ba hw 186 rfl) e00 (Ins.self P4) (g := (mkF m 8 #[vr s0, vr s1, .unset] [(.ref s1)])) rfl rfl (hb hby D5)
 obtain ⟨T11, X11, e11, st11⟩ := castY X10 hx hZ hown (Ba hw 186 rfl) e10 (Ins.self P4) (g := (mkF m 15 #[vr s0, vr s1, .unset] [(.ref s1)])) rfl rfl (hb hby A0)
 obtain ⟨T12, X12, e12, st12⟩ := getS2 X11 hx hZ hown (host := "") (Or.inl (Ba hw 67 rfl)) Via.refl e11 (Vc.ext O0.2) (g := (mkF m 19 #[vr s0, vr s1, vr s1] [])) rfl (hb hby D0)
 obtain ⟨T13, X13, e13, st13⟩ := getF X12 hx hZ hown (host := "") (Or.inl (Ba hw 157 rfl)) Via.refl e12 P1 (g := (mkF m 26 #[vr s0, vr s1, vr s1] [(.ref s0)])) rfl rfl (hb hby I0)
 obtain ⟨T14, X14, e14, st14⟩ := getF X13 hx hZ hown (host := "") (Or.inl (Ba hw 157 rfl)) Via.refl e13 P5 (g := (mkF m 30 #[vr s0, vr s1, vr s1] [(.ref s1), (.int 0)])) rfl rfl (hb hby L0)
 obtain ⟨T15, X15, e15, st15⟩ := getF X14 hx hZ hown (host := "") (Or.inl (Ba hw 156 rfl)) Via.refl e14 P2 (g := (mkF m 37 #[vr s0, vr s1, vr s1] [(.ref s0)])) rfl rfl (hb hby U0)
 obtain ⟨T16, X16, e16, st16⟩ := getF X15 hx hZ hown (host := "") (Or.inl (Ba hw 156 rfl)) Via.refl e15 P6 (g := (mkF m 41 #[vr s0, vr s1, vr s1] [(.ref s1), (.ref v0)])) rfl rfl (hb hby W0)
 obtain ⟨v17, T17, Lc17, X17, hQ17, st17⟩ := Ub X16 hx hZ hown (rm_le2 l Z a0 hw [] v0 v1 kv kw e0 e1 f0 f1 _ _ _ _ _ _ _ _ _ h0 n0 O0 hE P3 P7 me0 me1) (Ba hw 187 rfl) (Ba hw 188 rfl) (Ba hw 95 rfl) (Ba hw 189 rfl) e16 (g := (mkF m 44 #[vr s0, vr s1, vr s1] [(.ref v1), (.ref v0)])) rfl (by rw [hml]; rfl) (argsL := [(.ref v0), (.ref v1)]) (rest := []) rfl (lenOf Kxa rfl) rfl (W := 0) (by show 2 * 0 + _ ≤ _; exact Nat.le_of_eq rfl) (hb hby Y0) (by decide) (by decide) (by decide) (by decide) (by decide)
 obtain ⟨rfl, N17q, hp17⟩ := hQ17
 have N17 := Fr.app N00 N17q
 have k18 : Ab p e below m s₁ #[(.ref s0), (.ref s1)] 3 T17 55 #[vr s0, vr s1, vr s1] [(.int 1)] := by
  intro t k
  refine k00 t ?_
  refine Va X00 hx hby Y4 rfl rfl ?_
  refine Va X00 hx hby Z4 rfl rfl ?_
  refine Jvm.RoadKit.acmp (g := (mkF m 2 #[vr s0, vr s1, .unset] [(.ref s1), (.ref s0)])) X00 hx rfl rfl rfl (pc0 := 2) (pc' := 7) (same := false) rfl (hb hby A5) rfl (decide_eq_false fun q => ms (Value.ref.inj q)) (by decide) (by decide) ?_
  refine Va X00 hx hby B5 rfl rfl ?_
  refine st10 _ ?_
  refine XS.ifNo X10.here hx rfl (hb hby Yz) rfl ((if0 _ _).trans (feq (by decide : ¬ ((1 : Int32) = (0 : Int32)))).1) ?_
  refine Va X10 hx hby Zz rfl rfl ?_
  refine st11 _ ?_
  refine XS.astoreN X11.here hx rfl (hb hby B0) rfl rfl (l' := #[vr s0, vr s1, vr s1]) rfl ?_
  refine st12 _ ?_
  refine XS.ifNo X12.here hx rfl (hb hby G0) rfl ((if0 _ _).trans (feq Mc).1) ?_
  refine Va X12 hx hby H0 rfl rfl ?_
  show Za p e below m T12 26 #[vr s0, vr s1, vr s1] [(.ref s0)] t
  refine st13 _ ?_
  refine Va X13 hx hby K0 rfl rfl ?_
  refine st14 _ ?_
  refine XS.icmpNo X14.here hx rfl (hb hby M0) rfl (teq (by decide : (0 : Int32) = (0 : Int32))).2 ?_
  refine Va X14 hx hby R0 rfl rfl ?_
  refine st15 _ ?_
  refine Va X15 hx hby V0 rfl rfl ?_
  refine st16 _ ?_
  refine st17 _ ?_
  refine XS.ifNo X17.here hx rfl (hb hby Z0) rfl ((if0 _ _).trans (feq (by decide : ¬ ((1 : Int32) = (0 : Int32)))).1) ?_
  refine XS.iconst X17.here hx rfl (hb hby A1) ?_
  refine XS.goto X17.here hx rfl (pc0 := 51) (pc' := 55) rfl (hb hby B1) (by decide) (by decide) ?_
  show Za p e below m T17 55 #[vr s0, vr s1, vr s1] [(.int 1)] t
  exact k
 exact Zb (.int 1) hNG hlk hret X17 hp17 (by decide) (by decide) (fun fs hr => k18 _ (retN X17 hx (t := .boolean) hret (by simp) (hb hby D1) hr)) ⟨rfl, N17, rfl⟩
theorem rm_le4 (l : Launch) (Z : State) (a0 : Array Value) (hw : Pb a0 Z) (ws : List Jvm.Cond) (v0 v1 : Addr) (kv kw : ClassId) (e0 e1 e2 e3 f0 f1 f2 f3 : Int32) (Ra Ya Ia Ua Ka Ga Ma : Addr) (Da : Int32) (Aa : Value) (h0 : Heap) (n0 : Nat) (O0 : Old Z n0 h0) (hE : EV Z Ra Ya Ia Ua Ka Ga Ma Da Aa) (P0 : Arv Z h0 v0 kv .byte (4 : Int32) [(.int e0), (.int e1), (.int e2), (.int e3)] (.int 0)) (P1 : Arv Z h0 v1 kw .byte (4 : Int32) [(.int f0), (.int f1), (.int f2), (.int f3)] (.int 0)) (me0 : e0 = f0) (me1 : e1 = f1) (me2 : e2 = f2) (me3 : e3 = f3) :
   Ib l Wva (Jvm.Cond.code Wva jdk_43_method_13_code 3 (some .boolean) :: ws) (Hb 0 0 0 0) #[(.ref v0), (.ref v1)] Z h0 (fun v h L => v = some (.int 1) ∧ Fr n0 L ∧ h = h0) := by
 refine Db (plainFor_of_name Ik) n0 [] fun p e s m below meth c s₁ hx hby hml hown hnm hret hlk X00 e00 hZ N00 K00 hNG => ?_
 have k00 : Ab p e below m s₁ #[(.ref v0), (.ref v1)] 3 s₁ 0 #[vr v0, vr v1, .unset] [] := fun t k => castTop (Vva m v0 v1 ) k
 obtain ⟨cl10, Ar10, q10, Sz10, Nn10, Hs10, Gf10⟩ := id P0
 obtain ⟨cl11, Ar11, q11, Sz11, Nn11, Hs11, Gf11⟩ := id P1
 obtain ⟨cl12, Ar12, q12, Sz12, Nn12, Hs12, Gf12⟩ := id P0
 obtain ⟨cl13, Ar13, q13, Sz13, Nn13, Hs13, Gf13⟩ := id P0
 have hin14 := inb_of (j := 0) Sz13 ⟨by decide, by decide⟩
 have hat15 : cl13.slots[((0 : Int32)).toNatClampNeg]? = some (.int e0) := Hs13.at hin14 rfl
 obtain ⟨cl16, Ar16, q16, Sz16, Nn16, Hs16, Gf16⟩ := id P1
 have hin17 := inb_of (j := 0) Sz16 ⟨by decide, by decide⟩
 have hat18 : cl16.slots[((0 : Int32)).toNatClampNeg]? = some (.int f0) := Hs16.at hin17 rfl
 obtain ⟨cl19, Ar19, q19, Sz19, Nn19, Hs19, Gf19⟩ := id P0
 obtain ⟨cl20, Ar20, q20, Sz20, Nn20, Hs20, Gf20⟩ := id P0
 have hin21 := inb_of (j := 1) Sz20 ⟨by decide, by decide⟩
 have hat22 : cl20.slots[((1 : Int32)).toNatClampNeg]? = some (.int e1) := Hs20.at hin21 rfl
 obtain ⟨cl23, Ar23, q23, Sz23, Nn23, Hs23, Gf23⟩ := id P1
 have hin24 := inb_of (j := 1) Sz23 ⟨by decide, by decide⟩
 have hat25 : cl23.slots[((1 : Int32)).toNatClampNeg]? = some (.int f1) := Hs23.at hin24 rfl
 obtain ⟨cl26, Ar26, q26, Sz26, Nn26, Hs26, Gf26⟩ := id P0
 obtain ⟨cl27, Ar27, q27, Sz27, Nn27, Hs27, Gf27⟩ := id P0
 have hin28 := inb_of (j := 2) Sz27 ⟨by decide, by decide⟩
 have hat29 : cl27.slots[((2 : Int32)).toNatClampNeg]? = some (.int e2) := Hs27.at hin28 rfl
 obtain ⟨cl30, Ar30, q30, Sz30, Nn30, Hs30, Gf30⟩ := id P1
 have hin31 := inb_of (j := 2) Sz30 ⟨by decide, by decide⟩
 have hat32 : cl30.slots[((2 : Int32)).toNatClampNeg]? = some (.int f2) := Hs30.at hin31 rfl
 obtain ⟨cl33, Ar33, q33, Sz33, Nn33, Hs33, Gf33⟩ := id P0
 obtain ⟨cl34, Ar34, q34, Sz34, Nn34, Hs34, Gf34⟩ := id P0
 have hin35 := inb_of (j := 3) Sz34 ⟨by decide, by decide⟩
 have hat36 : cl34.slots[((3 : Int32)).toNatClampNeg]? = some (.int e3) := Hs34.at hin35 rfl
 obtain ⟨cl37, Ar37, q37, Sz37, Nn37, Hs37, Gf37⟩ := id P1
 have hin38 := inb_of (j := 3) Sz37 ⟨by decide, by decide⟩
 have hat39 : cl37.slots[((3 : Int32)).toNatClampNeg]? = some (.int f3) := Hs37.at hin38 rfl
 obtain ⟨cl40, Ar40, q40, Sz40, Nn40, Hs40, Gf40⟩ := id P0
 have k41 : Ab p e below m s₁ #[(.ref v0), (.ref v1)] 3 s₁ 33 #[vr v0, vr v1, vi 4] [(.int 1)] := by
  intro t k
  refine k00 t ?_
  refine Va X00 hx hby K4 rfl rfl ?_
  refine X00.arraylength hx (by rw [e00]; exact Ar10.1) (State.isArrayOf_alike hZ.alike Ar10.2.1) (g := (mkF m 1 #[vr v0, vr v1, .unset] [(.ref v0)])) rfl rfl (hb hby L4) _ ?_
  rw [len_of Sz10 Nn10]
  refine Va X00 hx hby M4 rfl rfl ?_
  refine X00.arraylength hx (by rw [e00]; exact Ar11.1) (State.isArrayOf_alike hZ.alike Ar11.2.1) (g := (mkF m 3 #[vr v0, vr v1, .unset] [(.ref v1), (.int 4)])) rfl rfl (hb hby R4) _ ?_
  rw [len_of Sz11 Nn11]
  refine XS.icmpNo X00.here hx rfl (hb hby U4) rfl (teq (by decide : (4 : Int32) = (4 : Int32))).2 ?_
  refine XS.iconst X00.here hx rfl (hb hby V4) ?_
  refine XS.istoreN X00.here hx rfl (hb hby W4) rfl (l' := #[vr v0, vr v1, vi 0]) rfl ?_
  refine Pa X00 hx hby Hd rfl ?_
  refine Va X00 hx hby Yc rfl rfl ?_
  refine X00.arraylength hx (by rw [e00]; exact Ar12.1) (State.isArrayOf_alike hZ.alike Ar12.2.1) (g := (mkF m 11 #[vr v0, vr v1, vi 0] [(.ref v0), (.int 0)])) rfl rfl (hb hby Zc) _ ?_
  rw [len_of Sz12 Nn12]
  refine XS.icmpNo X00.here hx rfl (hb hby Ad) rfl (tlt (by decide : (0 : Int32) < (4 : Int32))).2.1 ?_
  refine Va X00 hx hby Rd rfl rfl ?_
  show Za p e below m s₁ 16 #[vr v0, vr v1, vi 0] [(.ref v0)] t
  refine Pa X00 hx hby Ud rfl ?_
  refine X00.baloadBytes hx (j := 0) (v := (.int e0)) (by rw [e00]; exact Ar13.1) (State.isArrayOf_alike hZ.alike Ar13.2.1) Ar13.2.2 hin14 hat15 (g := (mkF m 17 #[vr v0, vr v1, vi 0] [(.int 0), (.ref v0)])) rfl rfl (hb hby Vd) _ ?_
  refine Va X00 hx hby Wd rfl rfl ?_
  refine Pa X00 hx hby Yd rfl ?_
  refine X00.baloadBytes hx (j := 0) (v := (.int f0)) (by rw [e00]; exact Ar16.1) (State.isArrayOf_alike hZ.alike Ar16.2.1) Ar16.2.2 hin17 hat18 (g := (mkF m 20 #[vr v0, vr v1, vi 0] [(.int 0), (.ref v1), (.int e0)])) rfl rfl (hb hby Zd) _ ?_
  refine XS.icmpYes X00.here hx rfl (pc0 := 21) (pc' := 26) rfl (hb hby Ae) rfl (teq me0).1 (by decide) (by decide) ?_
  refine XS.iinc X00.here hx rfl (hb hby Be) rfl (l' := #[vr v0, vr v1, vi ((0 : Int32) + (1 : Int32))]) rfl ?_
  rw [Mh]
  refine XS.goto X00.here hx rfl (pc0 := 29) (pc' := 9) rfl (hb hby De) (by decide) (by decide) ?_
  refine Pa X00 hx hby Hd rfl ?_
  refine Va X00 hx hby Yc rfl rfl ?_
  refine X00.arraylength hx (by rw [e00]; exact Ar19.1) (State.isArrayOf_alike hZ.alike Ar19.2.1) (g := (mkF m 11 #[vr v0, vr v1, vi 1] [(.ref v0), (.int 1)])) rfl rfl (hb hby Zc) _ ?_
  rw [len_of Sz19 Nn19]
  refine XS.icmpNo X00.here hx rfl (hb hby Ad) rfl (tlt (by decide : (1 : Int32) < (4 : Int32))).2.1 ?_
  show Za p e below m s₁ 15 #[vr v0, vr v1, vi 1] [] t
  refine Va X00 hx hby Rd rfl rfl ?_
  refine Pa X00 hx hby Ud rfl ?_
  refine X00.baloadBytes hx (j := 1) (v := (.int e1)) (by rw [e00]; exact Ar20.1) (State.isArrayOf_alike hZ.alike Ar20.2.1) Ar20.2.2 hin21 hat22 (g := (mkF m 17 #[vr v0, vr v1, vi 1] [(.int 1), (.ref v0)])) rfl rfl (hb hby Vd) _ ?_
  refine Va X00 hx hby Wd rfl rfl ?_
  refine Pa X00 hx hby Yd rfl ?_
  refine X00.baloadBytes hx (j := 1) (v := (.int f1)) (by rw [e00]; exact Ar23.1) (State.isArrayOf_alike hZ.alike Ar23.2.1) Ar23.2.2 hin24 hat25 (g := (mkF m 20 #[vr v0, vr v1, vi 1] [(.int 1), (.ref v1), (.int e1)])) rfl rfl (hb hby Zd) _ ?_
  refine XS.icmpYes X00.here hx rfl (pc0 := 21) (pc' := 26) rfl (hb hby Ae) rfl (teq me1).1 (by decide) (by decide) ?_
  refine XS.iinc X00.here hx rfl (hb hby Be) rfl (l' := #[vr v0, vr v1, vi ((1 : Int32) + (1 : Int32))]) rfl ?_
  rw [Hm]
  refine XS.goto X00.here hx rfl (pc0 := 29) (pc' := 9) rfl (hb hby De) (by decide) (by decide) ?_
  refine Pa X00 hx hby Hd rfl ?_
  refine Va X00 hx hby Yc rfl rfl ?_
  refine X00.arraylength hx (by rw [e00]; exact Ar26.1) (State.isArrayOf_alike hZ.alike Ar26.2.1) (g := (mkF m 11 #[vr v0, vr v1, vi 2] [(.ref v0), (.int 2)])) rfl rfl (hb hby Zc) _ ?_
  rw [len_of Sz26 Nn26]
  show Za p e below m s₁ 12 #[vr v0, vr v1, vi 2] [(.int 4), (.int 2)] t
  refine XS.icmpNo X00.here hx rfl (hb hby Ad) rfl (tlt (by decide : (2 : Int32) < (4 : Int32))).2.1 ?_
  refine Va X00 hx hby Rd rfl rfl ?_
  refine Pa X00 hx hby Ud rfl ?_
  refine X00.baloadBytes hx (j := 2) (v := (.int e2)) (by rw [e00]; exact Ar27.1) (State.isArrayOf_alike hZ.alike Ar27.2.1) Ar27.2.2 hin28 hat29 (g := (mkF m 17 #[vr v0, vr v1, vi 2] [(.int 2), (.ref v0)])) rfl rfl (hb hby Vd) _ ?_
  refine Va X00 hx hby Wd rfl rfl ?_
  refine Pa X00 hx hby Yd rfl ?_
  refine X00.baloadBytes hx (j := 2) (v := (.int f2)) (by rw [e00]; exact Ar30.1) (State.isArrayOf_alike hZ.alike Ar30.2.1) Ar30.2.2 hin31 hat32 (g := (mkF m 20 #[vr v0, vr v1, vi 2] [(.int 2), (.ref v1), (.int e2)])) rfl rfl (hb hby Zd) _ ?_
  refine XS.icmpYes X00.here hx rfl (pc0 := 21) (pc' := 26) rfl (hb hby Ae) rfl (teq me2).1 (by decide) (by decide) ?_
  refine XS.iinc X00.here hx rfl (hb hby Be) rfl (l' := #[vr v0, vr v1, vi ((2 : Int32) + (1 : Int32))]) rfl ?_
  rw [Lv]
  refine XS.goto X00.here hx rfl (pc0 := 29) (pc' := 9) rfl (hb hby De) (by decide) (by decide) ?_
  refine Pa X00 hx hby Hd rfl ?_
  refine Va X00 hx hby Yc rfl rfl ?_
  show Za p e below m s₁ 11 #[vr v0, vr v1, vi 3] [(.ref v0), (.int 3)] t
  refine X00.arraylength hx (by rw [e00]; exact Ar33.1) (State.isArrayOf_alike hZ.alike Ar33.2.1) (g := (mkF m 11 #[vr v0, vr v1, vi 3] [(.ref v0), (.int 3)])) rfl rfl (hb hby Zc) _ ?_
  rw [len_of Sz33 Nn33]
  refine XS.icmpNo X00.here hx rfl (hb hby Ad) rfl (tlt (by decide : (3 : Int32) < (4 : Int32))).2.1 ?_
  refine Va X00 hx hby Rd rfl rfl ?_
  refine Pa X00 hx hby Ud rfl ?_
  refine X00.baloadBytes hx (j := 3) (v := (.int e3)) (by rw [e00]; exact Ar34.1) (State.isArrayOf_alike hZ.alike Ar34.2.1) Ar34.2.2 hin35 hat36 (g := (mkF m 17 #[vr v0, vr v1, vi 3] [(.int 3), (.ref v0)])) rfl rfl (hb hby Vd) _ ?_
  refine Va X00 hx hby Wd rfl rfl ?_
  refine Pa X00 hx hby Yd rfl ?_
  refine X00.baloadBytes hx (j := 3) (v := (.int f3)) (by rw [e00]; exact Ar37.1) (State.isArrayOf_alike hZ.alike Ar37.2.1) Ar37.2.2 hin38 hat39 (g := (mkF m 20 #[vr v0, vr v1, vi 3] [(.int 3), (.ref v1), (.int e3)])) rfl rfl (hb hby Zd) _ ?_
  refine XS.icmpYes X00.here hx rfl (pc0 := 21) (pc' := 26) rfl (hb hby Ae) rfl (teq me3).1 (by decide) (by decide) ?_
  refine XS.iinc X00.here hx rfl (hb hby Be) rfl (l' := #[vr v0, vr v1, vi ((3 : Int32) + (1 : Int32))]) rfl ?_
  rw [Lza]
  refine XS.goto X00.here hx rfl (pc0 := 29) (pc' := 9) rfl (hb hby De) (by decide) (by decide) ?_
  refine Pa X00 hx hby Hd rfl ?_
  show Za p e below m s₁ 10 #[vr v0, vr v1, vi 4] [(.int 4)] t
  refine Va X00 hx hby Yc rfl rfl ?_
  refine X00.arraylength hx (by rw [e00]; exact Ar40.1) (State.isArrayOf_alike hZ.alike Ar40.2.1) (g := (mkF m 11 #[vr v0, vr v1, vi 4] [(.ref v0), (.int 4)])) rfl rfl (hb hby Zc) _ ?_
  rw [len_of Sz40 Nn40]
  refine XS.icmpYes X00.here hx rfl (pc0 := 12) (pc' := 32) rfl (hb hby Ad) rfl (flt (by decide : ¬ ((4 : Int32) < (4 : Int32)))).2.1 (by decide) (by decide) ?_
  refine XS.iconst X00.here hx rfl (hb hby Vz) ?_
  exact k
 exact Zb (.int 1) hNG hlk hret X00 e00 (by decide) (by decide) (fun fs hr => k41 _ (retN X00 hx (t := .boolean) hret (by simp) (hb hby Wz) hr)) ⟨rfl, N00, rfl⟩
theorem I5a (l : Launch) (Z : State) (a0 : Array Value) (hw : Pb a0 Z) (ws : List Jvm.Cond) (s0 s1 v0 v1 : Addr) (kv kw : ClassId) (e0 e1 e2 e3 f0 f1 f2 f3 : Int32) (Ra Ya Ia Ua Ka Ga Ma : Addr) (Da : Int32) (Aa : Value) (h0 : Heap) (n0 : Nat) (O0 : Old Z n0 h0) (hE : EV Z Ra Ya Ia Ua Ka Ga Ma Da Aa) (P0 : Exa Z h0 s0 "java/lang/String") (P1 : Fld Z h0 s0 "java/lang/String" "coder" "B" (.int 1)) (P2 : Fld Z h0 s0 "java/lang/String" "value" "[B" (.ref v0)) (P3 : Arv Z h0 v0 kv .byte (4 : Int32) [(.int e0), (.int e1), (.int e2), (.int e3)] (.int 0)) (P4 : Exa Z h0 s1 "java/lang/String") (P5 : Fld Z h0 s1 "java/lang/String" "coder" "B" (.int 1)) (P6 : Fld Z h0 s1 "java/lang/String" "value" "[B" (.ref v1)) (P7 : Arv Z h0 v1 kw .byte (4 : Int32) [(.int f0), (.int f1), (.int f2), (.int f3)] (.int 0)) (ms : ¬ (s0 = s1)) (me0 : e0 = f0) (me1 : e1 = f1) (me2 : e2 = f2) (me3 : e3 = f3) :
   Ib l Yva (Jvm.Cond.code Yva jdk_42_method_66_code 3 (some .boolean) :: ws) (Hb 1 0 0 14) #[(.ref s0), (.ref s1)] Z h0 (fun v h L => v = some (.int 1) ∧ Fr n0 L ∧ h = h0) := by
 refine Db (plainFor_of_name Mb) n0 [] fun p e s m below meth c s₁ hx hby hml hown hnm hret hlk X00 e00 hZ N00 K00 hNG => ?_
 have k00 : Ab p e below m s₁ #[(.ref s0), (.ref s1)] 3 s₁ 0 #[vr s0, vr s1, .unset] [] := fun t k => castTop (Vva m s0 s1 ) k
 obtain ⟨_, _, _, _, _, _, _, _, _, _, _, _, _, _, Vc, Mc, _⟩ := id hE
 obtain ⟨T10, X10, e10, st10⟩ := instY X00 hx hZ hown (Ba hw 186 rfl) e00 (Ins.self P4) (g := (mkF m 8 #[vr s0, vr s1, .unset] [(.ref s1)])) rfl rfl (hb hby D5)
 obtain ⟨T11, X11, e11, st11⟩ := castY X10 hx hZ hown (Ba hw 186 rfl) e10 (Ins.self P4) (g := (mkF m 15 #[vr s0, vr s1, .unset] [(.ref s1)])) rfl rfl (hb hby A0)
 obtain ⟨T12, X12, e12, st12⟩ := getS2 X11 hx hZ hown (host := "") (Or.inl (Ba hw 67 rfl)) Via.refl e11 (Vc.ext O0.2) (g := (mkF m 19 #[vr s0, vr s1, vr s1] [])) rfl (hb hby D0)
 obtain ⟨T13, X13, e13, st13⟩ := getF X12 hx hZ hown (host := "") (Or.inl (Ba hw 157 rfl)) Via.refl e12 P1 (g := (mkF m 26 #[vr s0, vr s1, vr s1] [(.ref s0)])) rfl rfl (hb hby I0)
 obtain ⟨T14, X14, e14, st14⟩ := getF X13 hx hZ hown (host := "") (Or.inl (Ba hw 157 rfl)) Via.refl e13 P5 (g := (mkF m 30 #[vr s0, vr s1, vr s1] [(.ref s1), (.int 1)])) rfl rfl (hb hby L0)
 obtain ⟨T15, X15, e15, st15⟩ := getF X14 hx hZ hown (host := "") (Or.inl (Ba hw 156 rfl)) Via.refl e14 P2 (g := (mkF m 37 #[vr s0, vr s1, vr s1] [(.ref s0)])) rfl rfl (hb hby U0)
 obtain ⟨T16, X16, e16, st16⟩ := getF X15 hx hZ hown (host := "") (Or.inl (Ba hw 156 rfl)) Via.refl e15 P6 (g := (mkF m 41 #[vr s0, vr s1, vr s1] [(.ref s1), (.ref v0)])) rfl rfl (hb hby W0)
 obtain ⟨v17, T17, Lc17, X17, hQ17, st17⟩ := Ub X16 hx hZ hown (rm_le4 l Z a0 hw [] v0 v1 kv kw e0 e1 e2 e3 f0 f1 f2 f3 _ _ _ _ _ _ _ _ _ h0 n0 O0 hE P3 P7 me0 me1 me2 me3) (Ba hw 187 rfl) (Ba hw 188 rfl) (Ba hw 95 rfl) (Ba hw 189 rfl) e16 (g := (mkF m 44 #[vr s0, vr s1, vr s1] [(.ref v1), (.ref v0)])) rfl (by rw [hml]; rfl) (argsL := [(.ref v0), (.ref v1)]) (rest := []) rfl (lenOf Kxa rfl) rfl (W := 0) (by show 2 * 0 + _ ≤ _; exact Nat.le_of_eq rfl) (hb hby Y0) (by decide) (by decide) (by decide) (by decide) (by decide)
 obtain ⟨rfl, N17q, hp17⟩ := hQ17
 have N17 := Fr.app N00 N17q
 have k18 : Ab p e below m s₁ #[(.ref s0), (.ref s1)] 3 T17 55 #[vr s0, vr s1, vr s1] [(.int 1)] := by
  intro t k
  refine k00 t ?_
  refine Va X00 hx hby Y4 rfl rfl ?_
  refine Va X00 hx hby Z4 rfl rfl ?_
  refine Jvm.RoadKit.acmp (g := (mkF m 2 #[vr s0, vr s1, .unset] [(.ref s1), (.ref s0)])) X00 hx rfl rfl rfl (pc0 := 2) (pc' := 7) (same := false) rfl (hb hby A5) rfl (decide_eq_false fun q => ms (Value.ref.inj q)) (by decide) (by decide) ?_
  refine Va X00 hx hby B5 rfl rfl ?_
  refine st10 _ ?_
  refine XS.ifNo X10.here hx rfl (hb hby Yz) rfl ((if0 _ _).trans (feq (by decide : ¬ ((1 : Int32) = (0 : Int32)))).1) ?_
  refine Va X10 hx hby Zz rfl rfl ?_
  refine st11 _ ?_
  refine XS.astoreN X11.here hx rfl (hb hby B0) rfl rfl (l' := #[vr s0, vr s1, vr s1]) rfl ?_
  refine st12 _ ?_
  refine XS.ifNo X12.here hx rfl (hb hby G0) rfl ((if0 _ _).trans (feq Mc).1) ?_
  refine Va X12 hx hby H0 rfl rfl ?_
  show Za p e below m T12 26 #[vr s0, vr s1, vr s1] [(.ref s0)] t
  refine st13 _ ?_
  refine Va X13 hx hby K0 rfl rfl ?_
  refine st14 _ ?_
  refine XS.icmpNo X14.here hx rfl (hb hby M0) rfl (teq (by decide : (1 : Int32) = (1 : Int32))).2 ?_
  refine Va X14 hx hby R0 rfl rfl ?_
  refine st15 _ ?_
  refine Va X15 hx hby V0 rfl rfl ?_
  refine st16 _ ?_
  refine st17 _ ?_
  refine XS.ifNo X17.here hx rfl (hb hby Z0) rfl ((if0 _ _).trans (feq (by decide : ¬ ((1 : Int32) = (0 : Int32)))).1) ?_
  refine XS.iconst X17.here hx rfl (hb hby A1) ?_
  refine XS.goto X17.here hx rfl (pc0 := 51) (pc' := 55) rfl (hb hby B1) (by decide) (by decide) ?_
  show Za p e below m T17 55 #[vr s0, vr s1, vr s1] [(.int 1)] t
  exact k
 exact Zb (.int 1) hNG hlk hret X17 hp17 (by decide) (by decide) (fun fs hr => k18 _ (retN X17 hx (t := .boolean) hret (by simp) (hb hby D1) hr)) ⟨rfl, N17, rfl⟩
theorem Wab : ((5 : Int32) + (1 : Int32)) = (6 : Int32) := by decide
theorem rm_le6 (l : Launch) (Z : State) (a0 : Array Value) (hw : Pb a0 Z) (ws : List Jvm.Cond) (v0 v1 : Addr) (kv kw : ClassId) (e0 e1 e2 e3 e4 e5 f0 f1 f2 f3 f4 f5 : Int32) (Ra Ya Ia Ua Ka Ga Ma : Addr) (Da : Int32) (Aa : Value) (h0 : Heap) (n0 : Nat) (O0 : Old Z n0 h0) (hE : EV Z Ra Ya Ia Ua Ka Ga Ma Da Aa) (P0 : Arv Z h0 v0 kv .byte (6 : Int32) [(.int e0), (.int e1), (.int e2), (.int e3), (.int e4), (.int e5)] (.int 0)) (P1 : Arv Z h0 v1 kw .byte (6 : Int32) [(.int f0), (.int f1), (.int f2), (.int f3), (.int f4), (.int f5)] (.int 0)) (me0 : e0 = f0) (me1 : e1 = f1) (me2 : e2 = f2) (me3 : e3 = f3) (me4 : e4 = f4) (me5 : e5 = f5) :
   Ib l Wva (Jvm.Cond.code Wva jdk_43_method_13_code 3 (some .boolean) :: ws) (Hb 0 0 0 0) #[(.ref v0), (.ref v1)] Z h0 (fun v h L => v = some (.int 1) ∧ Fr n0 L ∧ h = h0) := by
 refine Db (plainFor_of_name Ik) n0 [] fun p e s m below meth c s₁ hx hby hml hown hnm hret hlk X00 e00 hZ N00 K00 hNG => ?_
 have k00 : Ab p e below m s₁ #[(.ref v0), (.ref v1)] 3 s₁ 0 #[vr v0, vr v1, .unset] [] := fun t k => castTop (Vva m v0 v1 ) k
 obtain ⟨cl10, Ar10, q10, Sz10, Nn10, Hs10, Gf10⟩ := id P0
 obtain ⟨cl11, Ar11, q11, Sz11, Nn11, Hs11, Gf11⟩ := id P1
 obtain ⟨cl12, Ar12, q12, Sz12, Nn12, Hs12, Gf12⟩ := id P0
 obtain ⟨cl13, Ar13, q13, Sz13, Nn13, Hs13, Gf13⟩ := id P0
 have hin14 := inb_of (j := 0) Sz13 ⟨by decide, by decide⟩
 have hat15 : cl13.slots[((0 : Int32)).toNatClampNeg]? = some (.int e0) := Hs13.at hin14 rfl
 obtain ⟨cl16, Ar16, q16, Sz16, Nn16, Hs16, Gf16⟩ := id P1
 have hin17 := inb_of (j := 0) Sz16 ⟨by decide, by decide⟩
 have hat18 : cl16.slots[((0 : Int32)).toNatClampNeg]? = some (.int f0) := Hs16.at hin17 rfl
 obtain ⟨cl19, Ar19, q19, Sz19, Nn19, Hs19, Gf19⟩ := id P0
 obtain ⟨cl20, Ar20, q20, Sz20, Nn20, Hs20, Gf20⟩ := id P0
 have hin21 := inb_of (j := 1) Sz20 ⟨by decide, by decide⟩
 have hat22 : cl20.slots[((1 : Int32)).toNatClampNeg]? = some (.int e1) := Hs20.at hin21 rfl
 obtain ⟨cl23, Ar23, q23, Sz23, Nn23, Hs23, Gf23⟩ := id P1
 have hin24 := inb_of (j := 1) Sz23 ⟨by decide, by decide⟩
 have hat25 : cl23.slots[((1 : Int32)).toNatClampNeg]? = some (.int f1) := Hs23.at hin24 rfl
 obtain ⟨cl26, Ar26, q26, Sz26, Nn26, Hs26, Gf26⟩ := id P0
 obtain ⟨cl27, Ar27, q27, Sz27, Nn27, Hs27, Gf27⟩ := id P0
 have hin28 := inb_of (j := 2) Sz27 ⟨by decide, by decide⟩
 have hat29 : cl27.slots[((2 : Int32)).toNatClampNeg]? = some (.int e2) := Hs27.at hin28 rfl
 obtain ⟨cl30, Ar30, q30, Sz30, Nn30, Hs30, Gf30⟩ := id P1
 have hin31 := inb_of (j := 2) Sz30 ⟨by decide, by decide⟩
 have hat32 : cl30.slots[((2 : Int32)).toNatClampNeg]? = some (.int f2) := Hs30.at hin31 rfl
 obtain ⟨cl33, Ar33, q33, Sz33, Nn33, Hs33, Gf33⟩ := id P0
 obtain ⟨cl34, Ar34, q34, Sz34, Nn34, Hs34, Gf34⟩ := id P0
 have hin35 := inb_of (j := 3) Sz34 ⟨by decide, by decide⟩
 have hat36 : cl34.slots[((3 : Int32)).toNatClampNeg]? = some (.int e3) := Hs34.at hin35 rfl
 obtain ⟨cl37, Ar37, q37, Sz37, Nn37, Hs37, Gf37⟩ := id P1
 have hin38 := inb_of (j := 3) Sz37 ⟨by decide, by decide⟩
 have hat39 : cl37.slots[((3 : Int32)).toNatClampNeg]? = some (.int f3) := Hs37.at hin38 rfl
 obtain ⟨cl40, Ar40, q40, Sz40, Nn40, Hs40, Gf40⟩ := id P0
 obtain ⟨cl41, Ar41, q41, Sz41, Nn41, Hs41, Gf41⟩ := id P0
 have hin42 := inb_of (j := 4) Sz41 ⟨by decide, by decide⟩
 have hat43 : cl41.slots[((4 : Int32)).toNatClampNeg]? = some (.int e4) := Hs41.at hin42 rfl
 obtain ⟨cl44, Ar44, q44, Sz44, Nn44, Hs44, Gf44⟩ := id P1
 have hin45 := inb_of (j := 4) Sz44 ⟨by decide, by decide⟩
 have hat46 : cl44.slots[((4 : Int32)).toNatClampNeg]? = some (.int f4) := Hs44.at hin45 rfl
 obtain ⟨cl47, Ar47, q47, Sz47, Nn47, Hs47, Gf47⟩ := id P0
 obtain ⟨cl48, Ar48, q48, Sz48, Nn48, Hs48, Gf48⟩ := id P0
 have hin49 := inb_of (j := 5) Sz48 ⟨by decide, by decide⟩
 have hat50 : cl48.slots[((5 : Int32)).toNatClampNeg]? = some (.int e5) := Hs48.at hin49 rfl
 obtain ⟨cl51, Ar51, q51, Sz51, Nn51, Hs51, Gf51⟩ := id P1
 have hin52 := inb_of (j := 5) Sz51 ⟨by decide, by decide⟩
 have hat53 : cl51.slots[((5 : Int32)).toNatClampNeg]? = some (.int f5) := Hs51.at hin52 rfl
 obtain ⟨cl54, Ar54, q54, Sz54, Nn54, Hs54, Gf54⟩ := id P0
 have k55 : Ab p e below m s₁ #[(.ref v0), (.ref v1)] 3 s₁ 33 #[vr v0, vr v1, vi 6] [(.int 1)] := by
  intro t k
  refine k00 t ?_
  refine Va X00 hx hby K4 rfl rfl ?_
  refine X00.arraylength hx (by rw [e00]; exact Ar10.1) (State.isArrayOf_alike hZ.alike Ar10.2.1) (g := (mkF m 1 #[vr v0, vr v1, .unset] [(.ref v0)])) rfl rfl (hb hby L4) _ ?_
  rw [len_of Sz10 Nn10]
  refine Va X00 hx hby M4 rfl rfl ?_
  refine X00.arraylength hx (by rw [e00]; exact Ar11.1) (State.isArrayOf_alike hZ.alike Ar11.2.1) (g := (mkF m 3 #[vr v0, vr v1, .unset] [(.ref v1), (.int 6)])) rfl rfl (hb hby R4) _ ?_
  rw [len_of Sz11 Nn11]
  refine XS.icmpNo X00.here hx rfl (hb hby U4) rfl (teq (by decide : (6 : Int32) = (6 : Int32))).2 ?_
  refine XS.iconst X00.here hx rfl (hb hby V4) ?_
  refine XS.istoreN X00.here hx rfl (hb hby W4) rfl (l' := #[vr v0, vr v1, vi 0]) rfl ?_
  refine Pa X00 hx hby Hd rfl ?_
  refine Va X00 hx hby Yc rfl rfl ?_
  refine X00.arraylength hx (by rw [e00]; exact Ar12.1) (State.isArrayOf_alike hZ.alike Ar12.2.1) (g := (mkF m 11 #[vr v0, vr v1, vi 0] [(.ref v0), (.int 0)])) rfl rfl (hb hby Zc) _ ?_
  rw [len_of Sz12 Nn12]
  refine XS.icmpNo X00.here hx rfl (hb hby Ad) rfl (tlt (by decide : (0 : Int32) < (6 : Int32))).2.1 ?_
  refine Va X00 hx hby Rd rfl rfl ?_
  show Za p e below m s₁ 16 #[vr v0, vr v1, vi 0] [(.ref v0)] t
  refine Pa X00 hx hby Ud rfl ?_
  refine X00.baloadBytes hx (j := 0) (v := (.int e0)) (by rw [e00]; exact Ar13.1) (State.isArrayOf_alike hZ.alike Ar13.2.1) Ar13.2.2 hin14 hat15 (g := (mkF m 17 #[vr v0, vr v1, vi 0] [(.int 0), (.ref v0)])) rfl rfl (hb hby Vd) _ ?_
  refine Va X00 hx hby Wd rfl rfl ?_
  refine Pa X00 hx hby Yd rfl ?_
  refine X00.baloadBytes hx (j := 0) (v := (.int f0)) (by rw [e00]; exact Ar16.1) (State.isArrayOf_alike hZ.alike Ar16.2.1) Ar16.2.2 hin17 hat18 (g := (mkF m 20 #[vr v0, vr v1, vi 0] [(.int 0), (.ref v1), (.int e0)])) rfl rfl (hb hby Zd) _ ?_
  refine XS.icmpYes X00.here hx rfl (pc0 := 21) (pc' := 26) rfl (hb hby Ae) rfl (teq me0).1 (by decide) (by decide) ?_
  refine XS.iinc X00.here hx rfl (hb hby Be) rfl (l' := #[vr v0, vr v1, vi ((0 : Int32) + (1 : Int32))]) rfl ?_
  rw [Mh]
  refine XS.goto X00.here hx rfl (pc0 := 29) (pc' := 9) rfl (hb hby De) (by decide) (by decide) ?_
  refine Pa X00 hx hby Hd rfl ?_
  refine Va X00 hx hby Yc rfl rfl ?_
  refine X00.arraylength hx (by rw [e00]; exact Ar19.1) (State.isArrayOf_alike hZ.alike Ar19.2.1) (g := (mkF m 11 #[vr v0, vr v1, vi 1] [(.ref v0), (.int 1)])) rfl rfl (hb hby Zc) _ ?_
  rw [len_of Sz19 Nn19]
  refine XS.icmpNo X00.here hx rfl (hb hby Ad) rfl (tlt (by decide : (1 : Int32) < (6 : Int32))).2.1 ?_
  show Za p e below m s₁ 15 #[vr v0, vr v1, vi 1] [] t
  refine Va X00 hx hby Rd rfl rfl ?_
  refine Pa X00 hx hby Ud rfl ?_
  refine X00.baloadBytes hx (j := 1) (v := (.int e1)) (by rw [e00]; exact Ar20.1) (State.isArrayOf_alike hZ.alike Ar20.2.1) Ar20.2.2 hin21 hat22 (g := (mkF m 17 #[vr v0, vr v1, vi 1] [(.int 1), (.ref v0)])) rfl rfl (hb hby Vd) _ ?_
  refine Va X00 hx hby Wd rfl rfl ?_
  refine Pa X00 hx hby Yd rfl ?_
  refine X00.baloadBytes hx (j := 1) (v := (.int f1)) (by rw [e00]; exact Ar23.1) (State.isArrayOf_alike hZ.alike Ar23.2.1) Ar23.2.2 hin24 hat25 (g := (mkF m 20 #[vr v0, vr v1, vi 1] [(.int 1), (.ref v1), (.int e1)])) rfl rfl (hb hby Zd) _ ?_
  refine XS.icmpYes X00.here hx rfl (pc0 := 21) (pc' := 26) rfl (hb hby Ae) rfl (teq me1).1 (by decide) (by decide) ?_
  refine XS.iinc X00.here hx rfl (hb hby Be) rfl (l' := #[vr v0, vr v1, vi ((1 : Int32) + (1 : Int32))]) rfl ?_
  rw [Hm]
  refine XS.goto X00.here hx rfl (pc0 := 29) (pc' := 9) rfl (hb hby De) (by decide) (by decide) ?_
  refine Pa X00 hx hby Hd rfl ?_
  refine Va X00 hx hby Yc rfl rfl ?_
  refine X00.arraylength hx (by rw [e00]; exact Ar26.1) (State.isArrayOf_alike hZ.alike Ar26.2.1) (g := (mkF m 11 #[vr v0, vr v1, vi 2] [(.ref v0), (.int 2)])) rfl rfl (hb hby Zc) _ ?_
  rw [len_of Sz26 Nn26]
  show Za p e below m s₁ 12 #[vr v0, vr v1, vi 2] [(.int 6), (.int 2)] t
  refine XS.icmpNo X00.here hx rfl (hb hby Ad) rfl (tlt (by decide : (2 : Int32) < (6 : Int32))).2.1 ?_
  refine Va X00 hx hby Rd rfl rfl ?_
  refine Pa X00 hx hby Ud rfl ?_
  refine X00.baloadBytes hx (j := 2) (v := (.int e2)) (by rw [e00]; exact Ar27.1) (State.isArrayOf_alike hZ.alike Ar27.2.1) Ar27.2.2 hin28 hat29 (g := (mkF m 17 #[vr v0, vr v1, vi 2] [(.int 2), (.ref v0)])) rfl rfl (hb hby Vd) _ ?_
  refine Va X00 hx hby Wd rfl rfl ?_
  refine Pa X00 hx hby Yd rfl ?_
  refine X00.baloadBytes hx (j := 2) (v := (.int f2)) (by rw [e00]; exact Ar30.1) (State.isArrayOf_alike hZ.alike Ar30.2.1) Ar30.2.2 hin31 hat32 (g := (mkF m 20 #[vr v0, vr v1, vi 2] [(.int 2), (.ref v1), (.int e2)])) rfl rfl (hb hby Zd) _ ?_
  refine XS.icmpYes X00.here hx rfl (pc0 := 21) (pc' := 26) rfl (hb hby Ae) rfl (teq me2).1 (by decide) (by decide) ?_
  refine XS.iinc X00.here hx rfl (hb hby Be) rfl (l' := #[vr v0, vr v1, vi ((2 : Int32) + (1 : Int32))]) rfl ?_
  rw [Lv]
  refine XS.goto X00.here hx rfl (pc0 := 29) (pc' := 9) rfl (hb hby De) (by decide) (by decide) ?_
  refine Pa X00 hx hby Hd rfl ?_
  refine Va X00 hx hby Yc rfl rfl ?_
  show Za p e below m s₁ 11 #[vr v0, vr v1, vi 3] [(.ref v0), (.int 3)] t
  refine X00.arraylength hx (by rw [e00]; exact Ar33.1) (State.isArrayOf_alike hZ.alike Ar33.2.1) (g := (mkF m 11 #[vr v0, vr v1, vi 3] [(.ref v0), (.int 3)])) rfl rfl (hb hby Zc) _ ?_
  rw [len_of Sz33 Nn33]
  refine XS.icmpNo X00.here hx rfl (hb hby Ad) rfl (tlt (by decide : (3 : Int32) < (6 : Int32))).2.1 ?_
  refine Va X00 hx hby Rd rfl rfl ?_
  refine Pa X00 hx hby Ud rfl ?_
  refine X00.baloadBytes hx (j := 3) (v := (.int e3)) (by rw [e00]; exact Ar34.1) (State.isArrayOf_alike hZ.alike Ar34.2.1) Ar34.2.2 hin35 hat36 (g := (mkF m 17 #[vr v0, vr v1, vi 3] [(.int 3), (.ref v0)])) rfl rfl (hb hby Vd) _ ?_
  refine Va X00 hx hby Wd rfl rfl ?_
  refine Pa X00 hx hby Yd rfl ?_
  refine X00.baloadBytes hx (j := 3) (v := (.int f3)) (by rw [e00]; exact Ar37.1) (State.isArrayOf_alike hZ.alike Ar37.2.1) Ar37.2.2 hin38 hat39 (g := (mkF m 20 #[vr v0, vr v1, vi 3] [(.int 3), (.ref v1), (.int e3)])) rfl rfl (hb hby Zd) _ ?_
  refine XS.icmpYes X00.here hx rfl (pc0 := 21) (pc' := 26) rfl (hb hby Ae) rfl (teq me3).1 (by decide) (by decide) ?_
  refine XS.iinc X00.here hx rfl (hb hby Be) rfl (l' := #[vr v0, vr v1, vi ((3 : Int32) + (1 : Int32))]) rfl ?_
  rw [Lza]
  refine XS.goto X00.here hx rfl (pc0 := 29) (pc' := 9) rfl (hb hby De) (by decide) (by decide) ?_
  refine Pa X00 hx hby Hd rfl ?_
  show Za p e below m s₁ 10 #[vr v0, vr v1, vi 4] [(.int 4)] t
  refine Va X00 hx hby Yc rfl rfl ?_
  refine X00.arraylength hx (by rw [e00]; exact Ar40.1) (State.isArrayOf_alike hZ.alike Ar40.2.1) (g := (mkF m 11 #[vr v0, vr v1, vi 4] [(.ref v0), (.int 4)])) rfl rfl (hb hby Zc) _ ?_
  rw [len_of Sz40 Nn40]
  refine XS.icmpNo X00.here hx rfl (hb hby Ad) rfl (tlt (by decide : (4 : Int32) < (6 : Int32))).2.1 ?_
  refine Va X00 hx hby Rd rfl rfl ?_
  refine Pa X00 hx hby Ud rfl ?_
  refine X00.baloadBytes hx (j := 4) (v := (.int e4)) (by rw [e00]; exact Ar41.1) (State.isArrayOf_alike hZ.alike Ar41.2.1) Ar41.2.2 hin42 hat43 (g := (mkF m 17 #[vr v0, vr v1, vi 4] [(.int 4), (.ref v0)])) rfl rfl (hb hby Vd) _ ?_
  refine Va X00 hx hby Wd rfl rfl ?_
  refine Pa X00 hx hby Yd rfl ?_
  refine X00.baloadBytes hx (j := 4) (v := (.int f4)) (by rw [e00]; exact Ar44.1) (State.isArrayOf_alike hZ.alike Ar44.2.1) Ar44.2.2 hin45 hat46 (g := (mkF m 20 #[vr v0, vr v1, vi 4] [(.int 4), (.ref v1), (.int e4)])) rfl rfl (hb hby Zd) _ ?_
  refine XS.icmpYes X00.here hx rfl (pc0 := 21) (pc' := 26) rfl (hb hby Ae) rfl (teq me4).1 (by decide) (by decide) ?_
  refine XS.iinc X00.here hx rfl (hb hby Be) rfl (l' := #[vr v0, vr v1, vi ((4 : Int32) + (1 : Int32))]) rfl ?_
  rw [U0a]
  refine XS.goto X00.here hx rfl (pc0 := 29) (pc' := 9) rfl (hb hby De) (by decide) (by decide) ?_
  show Za p e below m s₁ 9 #[vr v0, vr v1, vi 5] [] t
  refine Pa X00 hx hby Hd rfl ?_
  refine Va X00 hx hby Yc rfl rfl ?_
  refine X00.arraylength hx (by rw [e00]; exact Ar47.1) (State.isArrayOf_alike hZ.alike Ar47.2.1) (g := (mkF m 11 #[vr v0, vr v1, vi 5] [(.ref v0), (.int 5)])) rfl rfl (hb hby Zc) _ ?_
  rw [len_of Sz47 Nn47]
  refine XS.icmpNo X00.here hx rfl (hb hby Ad) rfl (tlt (by decide : (5 : Int32) < (6 : Int32))).2.1 ?_
  refine Va X00 hx hby Rd rfl rfl ?_
  refine Pa X00 hx hby Ud rfl ?_
  refine X00.baloadBytes hx (j := 5) (v := (.int e5)) (by rw [e00]; exact Ar48.1) (State.isArrayOf_alike hZ.alike Ar48.2.1) Ar48.2.2 hin49 hat50 (g := (mkF m 17 #[vr v0, vr v1, vi 5] [(.int 5), (.ref v0)])) rfl rfl (hb hby Vd) _ ?_
  refine Va X00 hx hby Wd rfl rfl ?_
  refine Pa X00 hx hby Yd rfl ?_
  refine X00.baloadBytes hx (j := 5) (v := (.int f5)) (by rw [e00]; exact Ar51.1) (State.isArrayOf_alike hZ.alike Ar51.2.1) Ar51.2.2 hin52 hat53 (g := (mkF m 20 #[vr v0, vr v1, vi 5] [(.int 5), (.ref v1), (.int e5)])) rfl rfl (hb hby Zd) _ ?_
  refine XS.icmpYes X00.here hx rfl (pc0 := 21) (pc' := 26) rfl (hb hby Ae) rfl (teq me5).1 (by decide) (by decide) ?_
  refine XS.iinc X00.here hx rfl (hb hby Be) rfl (l' := #[vr v0, vr v1, vi ((5 : Int32) + (1 : Int32))]) rfl ?_
  rw [Wab]
  show Za p e below m s₁ 29 #[vr v0, vr v1, vi 6] [] t
  refine XS.goto X00.here hx rfl (pc0 := 29) (pc' := 9) rfl (hb hby De) (by decide) (by decide) ?_
  refine Pa X00 hx hby Hd rfl ?_
  refine Va X00 hx hby Yc rfl rfl ?_
  refine X00.arraylength hx (by rw [e00]; exact Ar54.1) (State.isArrayOf_alike hZ.alike Ar54.2.1) (g := (mkF m 11 #[vr v0, vr v1, vi 6] [(.ref v0), (.int 6)])) rfl rfl (hb hby Zc) _ ?_
  rw [len_of Sz54 Nn54]
  refine XS.icmpYes X00.here hx rfl (pc0 := 12) (pc' := 32) rfl (hb hby Ad) rfl (flt (by decide : ¬ ((6 : Int32) < (6 : Int32)))).2.1 (by decide) (by decide) ?_
  refine XS.iconst X00.here hx rfl (hb hby Vz) ?_
  exact k
 exact Zb (.int 1) hNG hlk hret X00 e00 (by decide) (by decide) (fun fs hr => k55 _ (retN X00 hx (t := .boolean) hret (by simp) (hb hby Wz) hr)) ⟨rfl, N00, rfl⟩
theorem K5a (l : Launch) (Z : State) (a0 : Array Value) (hw : Pb a0 Z) (ws : List Jvm.Cond) (s0 s1 v0 v1 : Addr) (kv kw : ClassId) (e0 e1 e2 e3 e4 e5 f0 f1 f2 f3 f4 f5 : Int32) (Ra Ya Ia Ua Ka Ga Ma : Addr) (Da : Int32) (Aa : Value) (h0 : Heap) (n0 : Nat) (O0 : Old Z n0 h0) (hE : EV Z Ra Ya Ia Ua Ka Ga Ma Da Aa) (P0 : Exa Z h0 s0 "java/lang/String") (P1 : Fld Z h0 s0 "java/lang/String" "coder" "B" (.int 1)) (P2 : Fld Z h0 s0 "java/lang/String" "value" "[B" (.ref v0)) (P3 : Arv Z h0 v0 kv .byte (6 : Int32) [(.int e0), (.int e1), (.int e2), (.int e3), (.int e4), (.int e5)] (.int 0)) (P4 : Exa Z h0 s1 "java/lang/String") (P5 : Fld Z h0 s1 "java/lang/String" "coder" "B" (.int 1)) (P6 : Fld Z h0 s1 "java/lang/String" "value" "[B" (.ref v1)) (P7 : Arv Z h0 v1 kw .byte (6 : Int32) [(.int f0), (.int f1), (.int f2), (.int f3), (.int f4), (.int f5)] (.int 0)) (ms : ¬ (s0 = s1)) (me0 : e0 = f0) (me1 : e1 = f1) (me2 : e2 = f2) (me3 : e3 = f3) (me4 : e4 = f4) (me5 : e5 = f5) :
   Ib l Yva (Jvm.Cond.code Yva jdk_42_method_66_code 3 (some .boolean) :: ws) (Hb 1 0 0 14) #[(.ref s0), (.ref s1)] Z h0 (fun v h L => v = some (.int 1) ∧ Fr n0 L ∧ h = h0) := by
 refine Db (plainFor_of_name Mb) n0 [] fun p e s m below meth c s₁ hx hby hml hown hnm hret hlk X00 e00 hZ N00 K00 hNG => ?_
 have k00 : Ab p e below m s₁ #[(.ref s0), (.ref s1)] 3 s₁ 0 #[vr s0, vr s1, .unset] [] := fun t k => castTop (Vva m s0 s1 ) k
 obtain ⟨_, _, _, _, _, _, _, _, _, _, _, _, _, _, Vc, Mc, _⟩ := id hE
 obtain ⟨T10, X10, e10, st10⟩ := instY X00 hx hZ hown (Ba hw 186 rfl) e00 (Ins.self P4) (g := (mkF m 8 #[vr s0, vr s1, .unset] [(.ref s1)])) rfl rfl (hb hby D5)
 obtain ⟨T11, X11, e11, st11⟩ := castY X10 hx hZ hown (Ba hw 186 rfl) e10 (Ins.self P4) (g := (mkF m 15 #[vr s0, vr s1, .unset] [(.ref s1)])) rfl rfl (hb hby A0)
 obtain ⟨T12, X12, e12, st12⟩ := getS2 X11 hx hZ hown (host := "") (Or.inl (Ba hw 67 rfl)) Via.refl e11 (Vc.ext O0.2) (g := (mkF m 19 #[vr s0, vr s1, vr s1] [])) rfl (hb hby D0)
 obtain ⟨T13, X13, e13, st13⟩ := getF X12 hx hZ hown (host := "") (Or.inl (Ba hw 157 rfl)) Via.refl e12 P1 (g := (mkF m 26 #[vr s0, vr s1, vr s1] [(.ref s0)])) rfl rfl (hb hby I0)
 obtain ⟨T14, X14, e14, st14⟩ := getF X13 hx hZ hown (host := "") (Or.inl (Ba hw 157 rfl)) Via.refl e13 P5 (g := (mkF m 30 #[vr s0, vr s1, vr s1] [(.ref s1), (.int 1)])) rfl rfl (hb hby L0)
 obtain ⟨T15, X15, e15, st15⟩ := getF X14 hx hZ hown (host := "") (Or.inl (Ba hw 156 rfl)) Via.refl e14 P2 (g := (mkF m 37 #[vr s0, vr s1, vr s1] [(.ref s0)])) rfl rfl (hb hby U0)
 obtain ⟨T16, X16, e16, st16⟩ := getF X15 hx hZ hown (host := "") (Or.inl (Ba hw 156 rfl)) Via.refl e15 P6 (g := (mkF m 41 #[vr s0, vr s1, vr s1] [(.ref s1), (.ref v0)])) rfl rfl (hb hby W0)
 obtain ⟨v17, T17, Lc17, X17, hQ17, st17⟩ := Ub X16 hx hZ hown (rm_le6 l Z a0 hw [] v0 v1 kv kw e0 e1 e2 e3 e4 e5 f0 f1 f2 f3 f4 f5 _ _ _ _ _ _ _ _ _ h0 n0 O0 hE P3 P7 me0 me1 me2 me3 me4 me5) (Ba hw 187 rfl) (Ba hw 188 rfl) (Ba hw 95 rfl) (Ba hw 189 rfl) e16 (g := (mkF m 44 #[vr s0, vr s1, vr s1] [(.ref v1), (.ref v0)])) rfl (by rw [hml]; rfl) (argsL := [(.ref v0), (.ref v1)]) (rest := []) rfl (lenOf Kxa rfl) rfl (W := 0) (by show 2 * 0 + _ ≤ _; exact Nat.le_of_eq rfl) (hb hby Y0) (by decide) (by decide) (by decide) (by decide) (by decide)
 obtain ⟨rfl, N17q, hp17⟩ := hQ17
 have N17 := Fr.app N00 N17q
 have k18 : Ab p e below m s₁ #[(.ref s0), (.ref s1)] 3 T17 55 #[vr s0, vr s1, vr s1] [(.int 1)] := by
  intro t k
  refine k00 t ?_
  refine Va X00 hx hby Y4 rfl rfl ?_
  refine Va X00 hx hby Z4 rfl rfl ?_
  refine Jvm.RoadKit.acmp (g := (mkF m 2 #[vr s0, vr s1, .unset] [(.ref s1), (.ref s0)])) X00 hx rfl rfl rfl (pc0 := 2) (pc' := 7) (same := false) rfl (hb hby A5) rfl (decide_eq_false fun q => ms (Value.ref.inj q)) (by decide) (by decide) ?_
  refine Va X00 hx hby B5 rfl rfl ?_
  refine st10 _ ?_
  refine XS.ifNo X10.here hx rfl (hb hby Yz) rfl ((if0 _ _).trans (feq (by decide : ¬ ((1 : Int32) = (0 : Int32)))).1) ?_
  refine Va X10 hx hby Zz rfl rfl ?_
  refine st11 _ ?_
  refine XS.astoreN X11.here hx rfl (hb hby B0) rfl rfl (l' := #[vr s0, vr s1, vr s1]) rfl ?_
  refine st12 _ ?_
  refine XS.ifNo X12.here hx rfl (hb hby G0) rfl ((if0 _ _).trans (feq Mc).1) ?_
  refine Va X12 hx hby H0 rfl rfl ?_
  show Za p e below m T12 26 #[vr s0, vr s1, vr s1] [(.ref s0)] t
  refine st13 _ ?_
  refine Va X13 hx hby K0 rfl rfl ?_
  refine st14 _ ?_
  refine XS.icmpNo X14.here hx rfl (hb hby M0) rfl (teq (by decide : (1 : Int32) = (1 : Int32))).2 ?_
  refine Va X14 hx hby R0 rfl rfl ?_
  refine st15 _ ?_
  refine Va X15 hx hby V0 rfl rfl ?_
  refine st16 _ ?_
  refine st17 _ ?_
  refine XS.ifNo X17.here hx rfl (hb hby Z0) rfl ((if0 _ _).trans (feq (by decide : ¬ ((1 : Int32) = (0 : Int32)))).1) ?_
  refine XS.iconst X17.here hx rfl (hb hby A1) ?_
  refine XS.goto X17.here hx rfl (pc0 := 51) (pc' := 55) rfl (hb hby B1) (by decide) (by decide) ?_
  show Za p e below m T17 55 #[vr s0, vr s1, vr s1] [(.int 1)] t
  exact k
 exact Zb (.int 1) hNG hlk hret X17 hp17 (by decide) (by decide) (fun fs hr => k18 _ (retN X17 hx (t := .boolean) hret (by simp) (hb hby D1) hr)) ⟨rfl, N17, rfl⟩
theorem P0a {i : Nat} (h : i < 32) : i = 0 ∨ i = 1 ∨ i = 2 ∨ i = 3 ∨ i = 4 ∨ i = 5 ∨ i = 6 ∨ i = 7 ∨ i = 8 ∨ i = 9 ∨ i = 10 ∨ i = 11 ∨ i = 12 ∨ i = 13 ∨ i = 14 ∨ i = 15 ∨ i = 16 ∨ i = 17 ∨ i = 18 ∨ i = 19 ∨ i = 20 ∨ i = 21 ∨ i = 22 ∨ i = 23 ∨ i = 24 ∨ i = 25 ∨ i = 26 ∨ i = 27 ∨ i = 28 ∨ i = 29 ∨ i = 30 ∨ i = 31 := by omega
theorem H2a {c : Int32} (k n : Nat) (hk : k ≤ 31) (hn : n = 2 ^ k) (h : 0 ≤ c.toInt ∧ c.toInt < n) (i : Nat) (hi : i < 32) (hik : k ≤ i) : c.toBitVec[i] = false := by
 have a : c.toBitVec.toInt = c.toInt := rfl
 have b := BitVec.toInt_eq_toNat_cond c.toBitVec
 have h2 : n ≤ 2 ^ 31 := by rw [hn]; exact Nat.pow_le_pow_right (by decide) hk
 have e : c.toBitVec.toNat < n := by
   split at b
   · omega
   · have := c.toBitVec.isLt; omega
 rw [← BitVec.getLsbD_eq_getElem, BitVec.getLsbD]
 exact Nat.testBit_lt_two_pow (Nat.lt_of_lt_of_le (hn ▸ e) (Nat.pow_le_pow_right (by decide) hik))
theorem A4a (x : Int32) : (x <<< ((12 : Int32) &&& 31)).toBitVec = x.toBitVec <<< 12 := by
 show x.toBitVec <<< (((12 : Int32) &&& 31).toBitVec.smod 32) = _
 rw [show ((12 : Int32) &&& 31).toBitVec.smod 32 = 12#32 from by decide]; rfl
theorem I2a (x : Int32) : (x <<< ((6 : Int32) &&& 31)).toBitVec = x.toBitVec <<< 6 := by
 show x.toBitVec <<< (((6 : Int32) &&& 31).toBitVec.smod 32) = _
 rw [show ((6 : Int32) &&& 31).toBitVec.smod 32 = 6#32 from by decide]; rfl
theorem B4a (x : Int32) : (x >>> ((12 : Int32) &&& 31)).toBitVec = x.toBitVec.sshiftRight 12 := by
 show x.toBitVec.sshiftRight' (((12 : Int32) &&& 31).toBitVec.smod 32) = _
 rw [show ((12 : Int32) &&& 31).toBitVec.smod 32 = 12#32 from by decide]; rfl
theorem K2a (x : Int32) : (x >>> ((6 : Int32) &&& 31)).toBitVec = x.toBitVec.sshiftRight 6 := by
 show x.toBitVec.sshiftRight' (((6 : Int32) &&& 31).toBitVec.smod 32) = _
 rw [show ((6 : Int32) &&& 31).toBitVec.smod 32 = 6#32 from by decide]; rfl
theorem Aza (x : Int32) : (x.toInt8.toInt32).toBitVec = (x.toBitVec.signExtend 8).signExtend 32 := rfl
theorem D4a (x : Int32) : (x.toUInt32.toUInt16.toUInt32.toInt32).toBitVec = (x.toBitVec.setWidth 16).setWidth 32 := rfl
theorem own_d3 (c : Int32) (h : 0 ≤ c.toInt ∧ c.toInt < 65536) : ((((((224 : Int32) ||| (c >>> ((12 : Int32) &&& 31))).toInt8.toInt32 <<< ((12 : Int32) &&& 31)) ^^^ ((((128 : Int32) ||| ((c >>> ((6 : Int32) &&& 31)) &&& (63 : Int32))).toInt8.toInt32) <<< ((6 : Int32) &&& 31))) ^^^ ((((128 : Int32) ||| (c &&& (63 : Int32))).toInt8.toInt32) ^^^ (-123008 : Int32))).toUInt32.toUInt16.toUInt32.toInt32) = c := by
 have hb := H2a (c := c) 16 65536 (by decide) (by decide) h
 apply Int32.toBitVec_inj.mp
 rw [D4a, Int32.toBitVec_xor, Int32.toBitVec_xor, Int32.toBitVec_xor, A4a, I2a, Aza, Aza, Aza, Int32.toBitVec_or, Int32.toBitVec_or, Int32.toBitVec_or, Int32.toBitVec_and, Int32.toBitVec_and, B4a, K2a]
 rw [show (224 : Int32).toBitVec = 224#32 from rfl, show (128 : Int32).toBitVec = 128#32 from rfl, show (63 : Int32).toBitVec = 63#32 from rfl, show (-123008 : Int32).toBitVec = -123008#32 from by decide]
 generalize c.toBitVec = x at hb ⊢
 apply BitVec.eq_of_getLsbD_eq
 intro i hi
 rcases P0a hi with rfl | rfl | rfl | rfl | rfl | rfl | rfl | rfl | rfl | rfl | rfl | rfl | rfl | rfl | rfl | rfl | rfl | rfl | rfl | rfl | rfl | rfl | rfl | rfl | rfl | rfl | rfl | rfl | rfl | rfl | rfl | rfl
 all_goals simp [BitVec.getElem_signExtend, BitVec.msb_eq_getLsbD_last, BitVec.getElem_sshiftRight, BitVec.getLsbD_sshiftRight, hb]
theorem Yab (x : Int32) : (x <<< ((18 : Int32) &&& 31)).toBitVec = x.toBitVec <<< 18 := by
 show x.toBitVec <<< (((18 : Int32) &&& 31).toBitVec.smod 32) = _
 rw [show ((18 : Int32) &&& 31).toBitVec.smod 32 = 18#32 from by decide]; rfl
theorem Zab (x : Int32) : (x >>> ((18 : Int32) &&& 31)).toBitVec = x.toBitVec.sshiftRight 18 := by
 show x.toBitVec.sshiftRight' (((18 : Int32) &&& 31).toBitVec.smod 32) = _
 rw [show ((18 : Int32) &&& 31).toBitVec.smod 32 = 18#32 from by decide]; rfl
theorem own_d4 (c : Int32) (h : 0 ≤ c.toInt ∧ c.toInt < 2097152) : ((((((240 : Int32) ||| (c >>> ((18 : Int32) &&& 31))).toInt8.toInt32) <<< ((18 : Int32) &&& 31)) ^^^ ((((128 : Int32) ||| ((c >>> ((12 : Int32) &&& 31)) &&& (63 : Int32))).toInt8.toInt32) <<< ((12 : Int32) &&& 31))) ^^^ ((((128 : Int32) ||| ((c >>> ((6 : Int32) &&& 31)) &&& (63 : Int32))).toInt8.toInt32) <<< ((6 : Int32) &&& 31))) ^^^ ((((128 : Int32) ||| ((c) &&& (63 : Int32))).toInt8.toInt32) ^^^ (3678080 : Int32)) = c := by
 have hb := H2a (c := c) 21 2097152 (by decide) (by decide) h
 apply Int32.toBitVec_inj.mp
 simp only [Int32.toBitVec_xor, Int32.toBitVec_or, Int32.toBitVec_and, Yab, A4a, I2a, Aza, Zab, B4a, K2a]
 rw [show (240 : Int32).toBitVec = 240#32 from rfl, show (128 : Int32).toBitVec = 128#32 from rfl, show (63 : Int32).toBitVec = 63#32 from rfl, show (3678080 : Int32).toBitVec = 3678080#32 from by decide]
 generalize c.toBitVec = x at hb ⊢
 apply BitVec.eq_of_getLsbD_eq
 intro i hi
 rcases P0a hi with rfl | rfl | rfl | rfl | rfl | rfl | rfl | rfl | rfl | rfl | rfl | rfl | rfl | rfl | rfl | rfl | rfl | rfl | rfl | rfl | rfl | rfl | rfl | rfl | rfl | rfl | rfl | rfl | rfl | rfl | rfl | rfl
 all_goals simp [BitVec.getElem_signExtend, BitVec.msb_eq_getLsbD_last, BitVec.getElem_sshiftRight, BitVec.getLsbD_sshiftRight, hb]
theorem own_d2 (c : Int32) (h : 0 ≤ c.toInt ∧ c.toInt < 2048) : (((((((192 : Int32) ||| (c >>> ((6 : Int32) &&& 31))).toInt8.toInt32) <<< ((6 : Int32) &&& 31)) ^^^ (((128 : Int32) ||| ((c) &&& (63 : Int32))).toInt8.toInt32)) ^^^ (3968 : Int32)).toUInt32.toUInt16.toUInt32.toInt32) = c := by
 have hb := H2a (c := c) 11 2048 (by decide) (by decide) h
 apply Int32.toBitVec_inj.mp
 simp only [D4a, Int32.toBitVec_xor, Int32.toBitVec_or, Int32.toBitVec_and, I2a, Aza, K2a]
 rw [show (192 : Int32).toBitVec = 192#32 from rfl, show (128 : Int32).toBitVec = 128#32 from rfl, show (63 : Int32).toBitVec = 63#32 from rfl, show (3968 : Int32).toBitVec = 3968#32 from by decide]
 generalize c.toBitVec = x at hb ⊢
 apply BitVec.eq_of_getLsbD_eq
 intro i hi
 rcases P0a hi with rfl | rfl | rfl | rfl | rfl | rfl | rfl | rfl | rfl | rfl | rfl | rfl | rfl | rfl | rfl | rfl | rfl | rfl | rfl | rfl | rfl | rfl | rfl | rfl | rfl | rfl | rfl | rfl | rfl | rfl | rfl | rfl
 all_goals simp [BitVec.getElem_signExtend, BitVec.msb_eq_getLsbD_last, BitVec.getElem_sshiftRight, BitVec.getLsbD_sshiftRight, hb]
theorem Y6 {x : Int32} (n : Nat) (hn : n ≤ 65536) (h : 0 ≤ x.toInt ∧ x.toInt < n) : ∃ k : Fin n, x = Int32.ofNat k.val := by
 refine ⟨⟨x.toInt.toNat, by omega⟩, ?_⟩
 apply Int32.toInt_inj.mp
 rw [Int32.toInt_ofNat_of_lt (by show x.toInt.toNat < 2 ^ 31; omega)]
 show x.toInt = ((x.toInt.toNat : Nat) : Int)
 omega
theorem Dca (y : Int32) : (((128 : Int32) ||| ((y) &&& (63 : Int32))).toInt8.toInt32) < (0 : Int32) ∧ (((128 : Int32) ||| ((y) &&& (63 : Int32))).toInt8.toInt32) < (-64 : Int32) ∧ ((((128 : Int32) ||| ((y) &&& (63 : Int32))).toInt8.toInt32) &&& (192 : Int32)) = (128 : Int32) := by
 have e := c_mask y (63 : Int32) 6 (by decide) (by decide)
 obtain ⟨k, hk⟩ := Y6 (x := y &&& (63 : Int32)) 64 (by decide) (by rw [e]; omega)
 rw [hk]
 clear hk e
 revert k
 decide
theorem Abb : ∀ k : Fin 32, 2 ≤ k.val → (((192 : Int32) ||| Int32.ofNat k.val).toInt8.toInt32) < (0 : Int32) ∧ (k.val < 4 → ((((192 : Int32) ||| Int32.ofNat k.val).toInt8.toInt32) &&& (254 : Int32)) = (194 : Int32)) ∧ (4 ≤ k.val → ¬ (((((192 : Int32) ||| Int32.ofNat k.val).toInt8.toInt32) &&& (254 : Int32)) = (194 : Int32))) ∧ ((((192 : Int32) ||| Int32.ofNat k.val).toInt8.toInt32) >>> ((5 : Int32) &&& 31)) = (-2 : Int32) ∧ ¬ (((((192 : Int32) ||| Int32.ofNat k.val).toInt8.toInt32) &&& (30 : Int32)) = (0 : Int32)) := by decide
theorem own_k1 (cp : Int32) (h : 128 ≤ cp.toInt ∧ cp.toInt < 2048) : (((192 : Int32) ||| (cp >>> ((6 : Int32) &&& 31))).toInt8.toInt32) < (0 : Int32) ∧ (cp.toInt < 256 → ((((192 : Int32) ||| (cp >>> ((6 : Int32) &&& 31))).toInt8.toInt32) &&& (254 : Int32)) = (194 : Int32)) ∧ (256 ≤ cp.toInt → ¬ (((((192 : Int32) ||| (cp >>> ((6 : Int32) &&& 31))).toInt8.toInt32) &&& (254 : Int32)) = (194 : Int32))) ∧ ((((192 : Int32) ||| (cp >>> ((6 : Int32) &&& 31))).toInt8.toInt32) >>> ((5 : Int32) &&& 31)) = (-2 : Int32) ∧ ¬ (((((192 : Int32) ||| (cp >>> ((6 : Int32) &&& 31))).toInt8.toInt32) &&& (30 : Int32)) = (0 : Int32)) := by
 have e := c_ishr cp 6 6 (by decide)
 obtain ⟨k, hk⟩ := Y6 (x := cp >>> ((6 : Int32) &&& 31)) 32 (by decide) (by rw [e]; omega)
 have ek : (cp >>> ((6 : Int32) &&& 31)).toInt = k.val := by rw [hk]; exact Int32.toInt_ofNat_of_lt (by show k.val < 2 ^ 31; omega)
 have q := Abb k (by omega)
 rw [hk]
 exact ⟨q.1, fun l => q.2.1 (by omega), fun l => q.2.2.1 (by omega), q.2.2.2⟩
theorem G4a {x : Int32} (h : 0 ≤ x.toInt ∧ x.toInt < 128) : (x.toInt8.toInt32) = x := by
 have a := c_i2b x
 apply Int32.toInt_inj.mp
 omega
theorem Bbb : ∀ k : Fin 16, (((224 : Int32) ||| Int32.ofNat k.val).toInt8.toInt32) < (0 : Int32) ∧ ¬ (((((224 : Int32) ||| Int32.ofNat k.val).toInt8.toInt32) &&& (254 : Int32)) = (194 : Int32)) ∧ ¬ (((((224 : Int32) ||| Int32.ofNat k.val).toInt8.toInt32) >>> ((5 : Int32) &&& 31)) = (-2 : Int32)) ∧ ((((224 : Int32) ||| Int32.ofNat k.val).toInt8.toInt32) >>> ((4 : Int32) &&& 31)) = (-2 : Int32) := by decide
theorem own_k2 (cp : Int32) (h : 0 ≤ cp.toInt ∧ cp.toInt < 65536) : (((224 : Int32) ||| (cp >>> ((12 : Int32) &&& 31))).toInt8.toInt32) < (0 : Int32) ∧ ¬ (((((224 : Int32) ||| (cp >>> ((12 : Int32) &&& 31))).toInt8.toInt32) &&& (254 : Int32)) = (194 : Int32)) ∧ ¬ (((((224 : Int32) ||| (cp >>> ((12 : Int32) &&& 31))).toInt8.toInt32) >>> ((5 : Int32) &&& 31)) = (-2 : Int32)) ∧ ((((224 : Int32) ||| (cp >>> ((12 : Int32) &&& 31))).toInt8.toInt32) >>> ((4 : Int32) &&& 31)) = (-2 : Int32) := by
 have e := c_ishr cp 12 12 (by decide)
 obtain ⟨k, hk⟩ := Y6 (x := cp >>> ((12 : Int32) &&& 31)) 16 (by decide) (by rw [e]; omega)
 have q := Bbb k
 rw [hk]
 exact q
theorem Dbb : ∀ k : Fin 5, (((240 : Int32) ||| Int32.ofNat k.val).toInt8.toInt32) < (0 : Int32) ∧ ¬ (((((240 : Int32) ||| Int32.ofNat k.val).toInt8.toInt32) &&& (254 : Int32)) = (194 : Int32)) ∧ ¬ (((((240 : Int32) ||| Int32.ofNat k.val).toInt8.toInt32) >>> ((5 : Int32) &&& 31)) = (-2 : Int32)) ∧ ¬ (((((240 : Int32) ||| Int32.ofNat k.val).toInt8.toInt32) >>> ((4 : Int32) &&& 31)) = (-2 : Int32)) ∧ ((((240 : Int32) ||| Int32.ofNat k.val).toInt8.toInt32) >>> ((3 : Int32) &&& 31)) = (-2 : Int32) := by decide
theorem own_k3 (cp : Int32) (h : 0 ≤ cp.toInt ∧ cp.toInt < 1114112) : (((240 : Int32) ||| (cp >>> ((18 : Int32) &&& 31))).toInt8.toInt32) < (0 : Int32) ∧ ¬ (((((240 : Int32) ||| (cp >>> ((18 : Int32) &&& 31))).toInt8.toInt32) &&& (254 : Int32)) = (194 : Int32)) ∧ ¬ (((((240 : Int32) ||| (cp >>> ((18 : Int32) &&& 31))).toInt8.toInt32) >>> ((5 : Int32) &&& 31)) = (-2 : Int32)) ∧ ¬ (((((240 : Int32) ||| (cp >>> ((18 : Int32) &&& 31))).toInt8.toInt32) >>> ((4 : Int32) &&& 31)) = (-2 : Int32)) ∧ ((((240 : Int32) ||| (cp >>> ((18 : Int32) &&& 31))).toInt8.toInt32) >>> ((3 : Int32) &&& 31)) = (-2 : Int32) := by
 have e := c_ishr cp 18 18 (by decide)
 obtain ⟨k, hk⟩ := Y6 (x := cp >>> ((18 : Int32) &&& 31)) 5 (by decide) (by rw [e]; omega)
 have q := Dbb k
 rw [hk]
 exact q
theorem Z7a : ∀ k : Fin 8, (((248 : Int32) + Int32.ofNat k.val).toInt8.toInt32) < (0 : Int32) ∧ ¬ (((((248 : Int32) + Int32.ofNat k.val).toInt8.toInt32) &&& (254 : Int32)) = (194 : Int32)) ∧ ¬ (((((248 : Int32) + Int32.ofNat k.val).toInt8.toInt32) >>> ((5 : Int32) &&& 31)) = (-2 : Int32)) ∧ ¬ (((((248 : Int32) + Int32.ofNat k.val).toInt8.toInt32) >>> ((4 : Int32) &&& 31)) = (-2 : Int32)) ∧ ¬ (((((248 : Int32) + Int32.ofNat k.val).toInt8.toInt32) >>> ((3 : Int32) &&& 31)) = (-2 : Int32)) := by decide
theorem Gbb (d : Int32) : (((248 : Int32) + (d &&& (7 : Int32))).toInt8.toInt32) < (0 : Int32) ∧ ¬ (((((248 : Int32) + (d &&& (7 : Int32))).toInt8.toInt32) &&& (254 : Int32)) = (194 : Int32)) ∧ ¬ (((((248 : Int32) + (d &&& (7 : Int32))).toInt8.toInt32) >>> ((5 : Int32) &&& 31)) = (-2 : Int32)) ∧ ¬ (((((248 : Int32) + (d &&& (7 : Int32))).toInt8.toInt32) >>> ((4 : Int32) &&& 31)) = (-2 : Int32)) ∧ ¬ (((((248 : Int32) + (d &&& (7 : Int32))).toInt8.toInt32) >>> ((3 : Int32) &&& 31)) = (-2 : Int32)) := by
 have e := c_mask d (7 : Int32) 3 (by decide) (by decide)
 obtain ⟨k, hk⟩ := Y6 (x := d &&& (7 : Int32)) 8 (by decide) (by rw [e]; omega)
 have q := Z7a k
 rw [hk]
 exact q
theorem A8a : ∀ k : Fin 64, (((128 : Int32) + Int32.ofNat k.val).toInt8.toInt32) < (0 : Int32) ∧ ¬ (((((128 : Int32) + Int32.ofNat k.val).toInt8.toInt32) &&& (254 : Int32)) = (194 : Int32)) ∧ ¬ (((((128 : Int32) + Int32.ofNat k.val).toInt8.toInt32) >>> ((5 : Int32) &&& 31)) = (-2 : Int32)) ∧ ¬ (((((128 : Int32) + Int32.ofNat k.val).toInt8.toInt32) >>> ((4 : Int32) &&& 31)) = (-2 : Int32)) ∧ ¬ (((((128 : Int32) + Int32.ofNat k.val).toInt8.toInt32) >>> ((3 : Int32) &&& 31)) = (-2 : Int32)) := by decide
theorem Hbb (d : Int32) : (((128 : Int32) + (d &&& (63 : Int32))).toInt8.toInt32) < (0 : Int32) ∧ ¬ (((((128 : Int32) + (d &&& (63 : Int32))).toInt8.toInt32) &&& (254 : Int32)) = (194 : Int32)) ∧ ¬ (((((128 : Int32) + (d &&& (63 : Int32))).toInt8.toInt32) >>> ((5 : Int32) &&& 31)) = (-2 : Int32)) ∧ ¬ (((((128 : Int32) + (d &&& (63 : Int32))).toInt8.toInt32) >>> ((4 : Int32) &&& 31)) = (-2 : Int32)) ∧ ¬ (((((128 : Int32) + (d &&& (63 : Int32))).toInt8.toInt32) >>> ((3 : Int32) &&& 31)) = (-2 : Int32)) := by
 have e := c_mask d (63 : Int32) 6 (by decide) (by decide)
 obtain ⟨k, hk⟩ := Y6 (x := d &&& (63 : Int32)) 64 (by decide) (by rw [e]; omega)
 have q := A8a k
 rw [hk]
 exact q
theorem own_e0 : ∀ k : Fin 16, (((224 : Int32) ||| Int32.ofNat k.val).toInt8.toInt32) = (-32 : Int32) → k.val = 0 := by decide
theorem own_e1 : ∀ k : Fin 64, 32 ≤ k.val → ¬ (((((128 : Int32) ||| Int32.ofNat k.val).toInt8.toInt32) &&& (224 : Int32)) = (128 : Int32)) := by decide
theorem Ibb (cp : Int32) (h : 2048 ≤ cp.toInt ∧ cp.toInt < 65536) : (((224 : Int32) ||| (cp >>> ((12 : Int32) &&& 31))).toInt8.toInt32) = (-32 : Int32) → ¬ (((((128 : Int32) ||| ((cp >>> ((6 : Int32) &&& 31)) &&& (63 : Int32))).toInt8.toInt32) &&& (224 : Int32)) = (128 : Int32)) := by
 have e := c_ishr cp 12 12 (by decide)
 have f := c_ishr cp 6 6 (by decide)
 have g := c_mask (cp >>> ((6 : Int32) &&& 31)) (63 : Int32) 6 (by decide) (by decide)
 obtain ⟨k, hk⟩ := Y6 (x := cp >>> ((12 : Int32) &&& 31)) 16 (by decide) (by rw [e]; omega)
 obtain ⟨j, hj⟩ := Y6 (x := (cp >>> ((6 : Int32) &&& 31)) &&& (63 : Int32)) 64 (by decide) (by rw [g]; omega)
 have ek : (cp >>> ((12 : Int32) &&& 31)).toInt = k.val := by rw [hk]; exact Int32.toInt_ofNat_of_lt (by show k.val < 2 ^ 31; omega)
 have ej : ((cp >>> ((6 : Int32) &&& 31)) &&& (63 : Int32)).toInt = j.val := by rw [hj]; exact Int32.toInt_ofNat_of_lt (by show j.val < 2 ^ 31; omega)
 rw [hk, hj]
 intro q
 have z := own_e0 k q
 exact own_e1 j (by omega)
theorem D1a {x : Int32} (h : 0 ≤ x.toInt ∧ x.toInt < 65536) : (x.toUInt32.toUInt16.toUInt32.toInt32) = x := by
 have a := c_i2c x
 apply Int32.toInt_inj.mp
 omega
theorem Dwa {x : Int32} (h : 0 ≤ x.toInt ∧ x.toInt < 65536) : ¬ x < (0 : Int32) ∧ ¬ (65535 : Int32) < x := by
 have e0 : (0 : Int32).toInt = 0 := by decide
 have e1 : (65535 : Int32).toInt = 65535 := by decide
 rw [Int32.lt_iff_toInt_lt, Int32.lt_iff_toInt_lt, e0, e1]
 omega
theorem H4a {x : Int32} (h : x.toInt < 256) : ¬ (255 : Int32) < x := by
 have e1 : (255 : Int32).toInt = 255 := by decide
 rw [Int32.lt_iff_toInt_lt, e1]
 omega
theorem G1a {x : Int32} (h : 256 ≤ x.toInt) : (255 : Int32) < x := by
 have e1 : (255 : Int32).toInt = 255 := by decide
 rw [Int32.lt_iff_toInt_lt, e1]
 omega
theorem I4a {x : Int32} (h : x < (256 : Int32)) : x.toInt < 256 := by
 have e1 : (256 : Int32).toInt = 256 := by decide
 rw [Int32.lt_iff_toInt_lt, e1] at h
 exact h
theorem K4a {x : Int32} (h : ¬ x < (256 : Int32)) : 256 ≤ x.toInt := by
 have e1 : (256 : Int32).toInt = 256 := by decide
 rw [Int32.lt_iff_toInt_lt, e1] at h
 omega
theorem own_fd : nar .char (65533 : Int32) = (65533 : Int32) := by decide
theorem L2a {p v : Int32} (h : v = ((p &&& (127 : Int32)).toUInt32.toUInt16.toUInt32.toInt32)) : (v.toInt8.toInt32) = v ∧ nar .byte v = v ∧ (v.toUInt32.toUInt16.toUInt32.toInt32) = v ∧ nar .char v = v ∧ (v &&& (255 : Int32)) = v ∧ ¬ v < (0 : Int32) ∧ ¬ (255 : Int32) < v ∧ ¬ (65535 : Int32) < v := by
 have r : 0 ≤ v.toInt ∧ v.toInt < 128 := by
   have a := c_i2c (p &&& (127 : Int32))
   have e := c_mask p (127 : Int32) 7 (by decide) (by decide)
   rw [h]
   omega
 have c := D1a (x := v) (by omega)
 have l := Dwa (x := v) (by omega)
 refine ⟨G4a r, G4a r, c, c, ?_, l.1, H4a (by omega), l.2⟩
 have e := c_mask v (255 : Int32) 8 (by decide) (by decide)
 apply Int32.toInt_inj.mp
 omega
theorem H1a (p q : Int32) (d : Int) (hq : q.toInt = d) (hd : 0 < d) : 0 ≤ ((p &&& (2147483647 : Int32)) % q).toInt ∧ ((p &&& (2147483647 : Int32)) % q).toInt < d := by
 have e := c_mask p (2147483647 : Int32) 31 (by decide) (by decide)
 have a := (c_irem (p &&& (2147483647 : Int32)) q d hq).1 (by omega)
 rw [a]
 exact ⟨Int.emod_nonneg _ (by omega), Int.emod_lt_of_pos _ hd⟩
theorem own_c1 {p cp : Int32} (h : cp = ((128 : Int32) + ((p &&& (2147483647 : Int32)) % (1920 : Int32)))) : 128 ≤ cp.toInt ∧ cp.toInt < 2048 := by
 have a := H1a p (1920 : Int32) 1920 (by decide) (by decide)
 have b := c_iadd (128 : Int32) ((p &&& (2147483647 : Int32)) % (1920 : Int32))
 have r := rng32 ((128 : Int32) + ((p &&& (2147483647 : Int32)) % (1920 : Int32)))
 have e : (128 : Int32).toInt = 128 := by decide
 rw [h]
 omega
theorem own_c2 {p cp : Int32} (h : cp = ((2048 : Int32) + ((p &&& (2147483647 : Int32)) % (61440 : Int32)))) : 2048 ≤ cp.toInt ∧ cp.toInt < 63488 := by
 have a := H1a p (61440 : Int32) 61440 (by decide) (by decide)
 have b := c_iadd (2048 : Int32) ((p &&& (2147483647 : Int32)) % (61440 : Int32))
 have r := rng32 ((2048 : Int32) + ((p &&& (2147483647 : Int32)) % (61440 : Int32)))
 have e : (2048 : Int32).toInt = 2048 := by decide
 rw [h]
 omega
theorem own_c3 {p v : Int32} (h : v = ((p &&& (2147483647 : Int32)) % (1048576 : Int32))) : 0 ≤ v.toInt ∧ v.toInt < 1048576 := by
 rw [h]
 exact H1a p (1048576 : Int32) 1048576 (by decide) (by decide)
theorem Kbb {c : Int32} (r : 2048 ≤ c.toInt ∧ c.toInt < 63488) (h : c < (55296 : Int32)) : (2048 ≤ c.toInt ∧ c.toInt < 55296) ∨ (57344 ≤ c.toInt ∧ c.toInt < 65536) := by
 have e : (55296 : Int32).toInt = 55296 := by decide
 rw [Int32.lt_iff_toInt_lt, e] at h
 omega
theorem Lbb {c : Int32} (r : 2048 ≤ c.toInt ∧ c.toInt < 63488) (h : ¬ c < (55296 : Int32)) : (2048 ≤ (c + (2048 : Int32)).toInt ∧ (c + (2048 : Int32)).toInt < 55296) ∨ (57344 ≤ (c + (2048 : Int32)).toInt ∧ (c + (2048 : Int32)).toInt < 65536) := by
 have e : (55296 : Int32).toInt = 55296 := by decide
 have e2 : (2048 : Int32).toInt = 2048 := by decide
 rw [Int32.lt_iff_toInt_lt, e] at h
 have b := c_iadd c (2048 : Int32)
 have q := rng32 (c + (2048 : Int32))
 omega
theorem L5a {cp y1 y2 : Int32} (h1 : y1 = (((192 : Int32) ||| (cp >>> ((6 : Int32) &&& 31))).toInt8.toInt32)) (h2 : y2 = (((128 : Int32) ||| (cp &&& (63 : Int32))).toInt8.toInt32)) (h : 128 ≤ cp.toInt ∧ cp.toInt < 2048) : y1 < (0 : Int32) ∧ (cp.toInt < 256 → (y1 &&& (254 : Int32)) = (194 : Int32)) ∧ (256 ≤ cp.toInt → ¬ ((y1 &&& (254 : Int32)) = (194 : Int32))) ∧ (y1 >>> ((5 : Int32) &&& 31)) = (-2 : Int32) ∧ ¬ ((y1 &&& (30 : Int32)) = (0 : Int32)) ∧ y2 < (-64 : Int32) ∧ (y2 &&& (192 : Int32)) = (128 : Int32) ∧ ((((y1 <<< ((6 : Int32) &&& 31)) ^^^ y2) ^^^ (3968 : Int32)).toUInt32.toUInt16.toUInt32.toInt32) = cp := by
 subst h1 h2
 have a := own_k1 cp h
 have b := Dca cp
 exact ⟨a.1, a.2.1, a.2.2.1, a.2.2.2.1, a.2.2.2.2, b.2.1, b.2.2, own_d2 cp ⟨by omega, h.2⟩⟩
theorem own_K2 {cp y1 y2 y3 : Int32} (h1 : y1 = (((224 : Int32) ||| (cp >>> ((12 : Int32) &&& 31))).toInt8.toInt32)) (h2 : y2 = (((128 : Int32) ||| ((cp >>> ((6 : Int32) &&& 31)) &&& (63 : Int32))).toInt8.toInt32)) (h3 : y3 = (((128 : Int32) ||| (cp &&& (63 : Int32))).toInt8.toInt32)) (h : (2048 ≤ cp.toInt ∧ cp.toInt < 55296) ∨ (57344 ≤ cp.toInt ∧ cp.toInt < 65536)) : y1 < (0 : Int32) ∧ ¬ ((y1 &&& (254 : Int32)) = (194 : Int32)) ∧ ¬ ((y1 >>> ((5 : Int32) &&& 31)) = (-2 : Int32)) ∧ (y1 >>> ((4 : Int32) &&& 31)) = (-2 : Int32) ∧ (y2 &&& (192 : Int32)) = (128 : Int32) ∧ (y3 &&& (192 : Int32)) = (128 : Int32) ∧ (y1 = (-32 : Int32) → ¬ ((y2 &&& (224 : Int32)) = (128 : Int32))) ∧ (¬ (((((y1 <<< ((12 : Int32) &&& 31)) ^^^ (y2 <<< ((6 : Int32) &&& 31))) ^^^ (y3 ^^^ (-123008 : Int32))).toUInt32.toUInt16.toUInt32.toInt32) < (55296 : Int32)) → ¬ (((((y1 <<< ((12 : Int32) &&& 31)) ^^^ (y2 <<< ((6 : Int32) &&& 31))) ^^^ (y3 ^^^ (-123008 : Int32))).toUInt32.toUInt16.toUInt32.toInt32) < (57344 : Int32))) ∧ ((((y1 <<< ((12 : Int32) &&& 31)) ^^^ (y2 <<< ((6 : Int32) &&& 31))) ^^^ (y3 ^^^ (-123008 : Int32))).toUInt32.toUInt16.toUInt32.toInt32) = cp := by
 have q : 2048 ≤ cp.toInt ∧ cp.toInt < 65536 := by omega
 have e1 : (55296 : Int32).toInt = 55296 := by decide
 have e2 : (57344 : Int32).toInt = 57344 := by decide
 subst h1 h2 h3
 have a := own_k2 cp ⟨by omega, q.2⟩
 have d := own_d3 cp ⟨by omega, q.2⟩
 refine ⟨a.1, a.2.1, a.2.2.1, a.2.2.2, (Dca _).2.2, (Dca _).2.2, Ibb cp q, ?_, d⟩
 rw [d]
 simp only [Int32.lt_iff_toInt_lt, e1, e2]
 omega
theorem own_K3 {v cp y1 y2 y3 y4 u1 u2 : Int32} (hv : 0 ≤ v.toInt ∧ v.toInt < 1048576) (hc : cp = ((65536 : Int32) + v)) (h1 : y1 = (((240 : Int32) ||| (cp >>> ((18 : Int32) &&& 31))).toInt8.toInt32)) (h2 : y2 = (((128 : Int32) ||| ((cp >>> ((12 : Int32) &&& 31)) &&& (63 : Int32))).toInt8.toInt32)) (h3 : y3 = (((128 : Int32) ||| ((cp >>> ((6 : Int32) &&& 31)) &&& (63 : Int32))).toInt8.toInt32)) (h4 : y4 = (((128 : Int32) ||| (cp &&& (63 : Int32))).toInt8.toInt32)) (g1 : u1 = (((55296 : Int32) + (v >>> ((10 : Int32) &&& 31))).toUInt32.toUInt16.toUInt32.toInt32)) (g2 : u2 = (((56320 : Int32) + (v &&& (1023 : Int32))).toUInt32.toUInt16.toUInt32.toInt32)) : y1 < (0 : Int32) ∧ ¬ ((y1 &&& (254 : Int32)) = (194 : Int32)) ∧ ¬ ((y1 >>> ((5 : Int32) &&& 31)) = (-2 : Int32)) ∧ ¬ ((y1 >>> ((4 : Int32) &&& 31)) = (-2 : Int32)) ∧ (y1 >>> ((3 : Int32) &&& 31)) = (-2 : Int32) ∧ (y2 &&& (192 : Int32)) = (128 : Int32) ∧ (y3 &&& (192 : Int32)) = (128 : Int32) ∧ (y4 &&& (192 : Int32)) = (128 : Int32) ∧ ¬ (((((y1 <<< ((18 : Int32) &&& 31)) ^^^ (y2 <<< ((12 : Int32) &&& 31))) ^^^ (y3 <<< ((6 : Int32) &&& 31))) ^^^ (y4 ^^^ (3678080 : Int32))) < (65536 : Int32)) ∧ ((((y1 <<< ((18 : Int32) &&& 31)) ^^^ (y2 <<< ((12 : Int32) &&& 31))) ^^^ (y3 <<< ((6 : Int32) &&& 31))) ^^^ (y4 ^^^ (3678080 : Int32))) < (1114112 : Int32) ∧ ((((((((y1 <<< ((18 : Int32) &&& 31)) ^^^ (y2 <<< ((12 : Int32) &&& 31))) ^^^ (y3 <<< ((6 : Int32) &&& 31))) ^^^ (y4 ^^^ (3678080 : Int32))).toUInt32 >>> ((10 : Int32) &&& 31).toUInt32).toInt32) + (55232 : Int32)).toUInt32.toUInt16.toUInt32.toInt32) = u1 ∧ (((((((y1 <<< ((18 : Int32) &&& 31)) ^^^ (y2 <<< ((12 : Int32) &&& 31))) ^^^ (y3 <<< ((6 : Int32) &&& 31))) ^^^ (y4 ^^^ (3678080 : Int32))) &&& (1023 : Int32)) + (56320 : Int32)).toUInt32.toUInt16.toUInt32.toInt32) = u2 ∧ (255 : Int32) < u1 ∧ (¬ u1 < (0 : Int32) ∧ ¬ (65535 : Int32) < u1) ∧ (¬ u2 < (0 : Int32) ∧ ¬ (65535 : Int32) < u2) := by
 have e0 : (65536 : Int32).toInt = 65536 := by decide
 have e1 : (55296 : Int32).toInt = 55296 := by decide
 have e2 : (56320 : Int32).toInt = 56320 := by decide
 have e3 : (1114112 : Int32).toInt = 1114112 := by decide
 have e4 : (55232 : Int32).toInt = 55232 := by decide
 have b := c_iadd (65536 : Int32) v
 have r := rng32 ((65536 : Int32) + v)
 rw [← hc] at b r
 have ec : cp.toInt = 65536 + v.toInt := by omega
 subst h1 h2 h3 h4
 have a := own_k3 cp ⟨by omega, by omega⟩
 have d := own_d4 cp ⟨by omega, by omega⟩
 rw [d]
 have s1 := c_ishr v (10 : Int32) 10 (by decide)
 have s2 := c_iadd (55296 : Int32) (v >>> ((10 : Int32) &&& 31))
 have s3 := rng32 ((55296 : Int32) + (v >>> ((10 : Int32) &&& 31)))
 have s4 := c_i2c ((55296 : Int32) + (v >>> ((10 : Int32) &&& 31)))
 rw [← g1] at s4
 have t1 := c_mask v (1023 : Int32) 10 (by decide) (by decide)
 have t2 := c_iadd (56320 : Int32) (v &&& (1023 : Int32))
 have t3 := rng32 ((56320 : Int32) + (v &&& (1023 : Int32)))
 have t4 := c_i2c ((56320 : Int32) + (v &&& (1023 : Int32)))
 rw [← g2] at t4
 have eu1 : u1.toInt = 55296 + v.toInt / 1024 := by omega
 have eu2 : u2.toInt = 56320 + v.toInt % 1024 := by omega
 refine ⟨a.1, a.2.1, a.2.2.1, a.2.2.2.1, a.2.2.2.2, (Dca _).2.2, (Dca _).2.2, (Dca _).2.2, ?_, ?_, ?_, ?_, G1a (by omega), Dwa (by omega), Dwa (by omega)⟩
 · rw [Int32.lt_iff_toInt_lt, e0]; omega
 · rw [Int32.lt_iff_toInt_lt, e3]; omega
 · have w1 := c_iushr cp (10 : Int32) 10 (by decide) (by decide)
   have w2 := c_iadd ((cp.toUInt32 >>> ((10 : Int32) &&& 31).toUInt32).toInt32) (55232 : Int32)
   have w3 := rng32 (((cp.toUInt32 >>> ((10 : Int32) &&& 31).toUInt32).toInt32) + (55232 : Int32))
   have w4 := c_i2c (((cp.toUInt32 >>> ((10 : Int32) &&& 31).toUInt32).toInt32) + (55232 : Int32))
   apply Int32.toInt_inj.mp
   omega
 · have w1 := c_mask cp (1023 : Int32) 10 (by decide) (by decide)
   have w2 := c_iadd (cp &&& (1023 : Int32)) (56320 : Int32)
   have w3 := rng32 ((cp &&& (1023 : Int32)) + (56320 : Int32))
   have w4 := c_i2c ((cp &&& (1023 : Int32)) + (56320 : Int32))
   apply Int32.toInt_inj.mp
   omega
theorem ef_law (m : MethodId) (x0 : Int32) (x1 : Int32) (x2 : Int32) (x3 : Int32) (x4 : Int32)  : entryFrame m #[(.int x0), (.int x1), (.int x2), (.int x3), (.int x4)] maxLocals = mkF m 0 #[.val (.int x0), .val (.int x1), .val (.int x2), .val (.int x3), .val (.int x4), .unset, .unset, .unset, .unset, .unset, .unset, .unset] [] := by first | (simp [entryFrame, mkF, argsToLocals, Value.category, maxLocals]; done) | rfl
theorem Vt : parseMethodDescriptor "(I)Lcom/example/attenuation/attenuation/core/Outcome$Status;" = some ⟨[.int], some (.object "com/example/attenuation/attenuation/core/Outcome$Status")⟩ := by decide +kernel
theorem Uc : parseMethodDescriptor "(Lcom/example/attenuation/attenuation/core/Outcome$Status;[B)V" = some ⟨[(.object "com/example/attenuation/attenuation/core/Outcome$Status"), (.array .byte)], none⟩ := by decide +kernel
theorem Dm : parseMethodDescriptor "()Ljava/lang/String;" = some ⟨[], some (.object "java/lang/String")⟩ := by decide +kernel
theorem Gca : parseMethodDescriptor "([C)V" = some ⟨[(.array .char)], none⟩ := by decide +kernel
theorem Dl : parseMethodDescriptor "(Ljava/lang/Object;)Z" = some ⟨[(.object "java/lang/Object")], some .boolean⟩ := by decide +kernel
def Lxa (Z : State) (p0 p1 p2 p3 p4 : Int32) (Ra Ya Ia Ua Ka Ga Ma : Addr) (Da : Int32) (Aa : Value) (h0 : Heap) (n0 : Nat) (v : Option Value) (h : Heap) (L : List Loc) : Prop := v = some (.int 1) ∧ Fr n0 L
theorem rm_law (l : Launch) (Z : State) (a0 : Array Value) (hw : ∀ d ∈ tables_1, d.before a0 Z = true) (ws : List Jvm.Cond) (p0 p1 p2 p3 p4 : Int32) (Ra Ya Ia Ua Ka Ga Ma : Addr) (Da : Int32) (Aa : Value) (h0 : Heap) (n0 : Nat) (O0 : Old Z n0 h0) (hE : EV Z Ra Ya Ia Ua Ka Ga Ma Da Aa) :
   MetFree l x (head1 (Jvm.Cond.code x code maxLocals ret :: ws) room_1) (fun a U => a = #[(.int p0), (.int p1), (.int p2), (.int p3), (.int p4)] ∧ Z.Warmed39 U.vm ∧ U.heap = h0) (fun _ _ _ _ _ => True) (fun _ U o U' => ∃ v L, o = .returned v ∧ Lxa Z p0 p1 p2 p3 p4 Ra Ya Ia Ua Ka Ga Ma Da Aa h0 n0 v U'.heap L ∧ ReturnedEndW U o U' L 14 96) := by
 refine MetFree.of_bodySF (plainFor_of_name Ai) hisR ?_
 intro p e s m args below meth c s₁ Bd hml0 hP hK
 obtain ⟨rfl, hZ, hh⟩ := hP
 have hx := Bd.exec
 have hby := Bd.bytes
 have hml : c.maxLocals = 12 := hml0
 have hown : s.vm.findClass "com/example/attenuation/attenuation/core/OutcomeTextPinLaw" = some m.cls := findClass_of_methodNamed Bd.named
 have hnm := (name_of_methodNamed Bd.named Bd.method).1
 have X00 : Stand p l e room_1 s m #[(.int p0), (.int p1), (.int p2), (.int p3), (.int p4)] below meth c s₁ [] 0 0 := Stand.of_body Bd
 have e00 : s₁.heap = h0 := by rw [← hh, Bd.state]; rfl
 have N00 := Fr.nil n0
 refine Classical.byContradiction fun hNG => ?_
 have K00 := Keep.refl h0 []
 have k00 : Ab p e below m s₁ #[(.int p0), (.int p1), (.int p2), (.int p3), (.int p4)] maxLocals s₁ 0 #[vi p0, vi p1, vi p2, vi p3, vi p4, .unset, .unset, .unset, .unset, .unset, .unset, .unset] [] := fun t k => castTop (ef_law m p0 p1 p2 p3 p4 ) k
 have hS : s.Since s.vm 0 := (State.WarmedH.refl s).since 0
 have X00 : Stand p l e room_1 (s.setVm s.vm) m #[(.int p0), (.int p1), (.int p2), (.int p3), (.int p4)] below meth c s₁ [] 0 0 := X00
 have hZ : Z.Warmed39 (s.setVm s.vm).vm := hZ
 have hown : (s.setVm s.vm).vm.findClass "com/example/attenuation/attenuation/core/OutcomeTextPinLaw" = some m.cls := hown
 obtain ⟨pr, hpr⟩ : ∃ z, z = ((p2 &&& (127 : Int32)).toUInt32.toUInt16.toUInt32.toInt32) := ⟨_, rfl⟩
 obtain ⟨a_pr, nb_pr, cc_pr, nc_pr, pp_pr, nn_pr, le_pr, hh_pr⟩ := L2a hpr
 have k10 : Ab p e below m s₁ #[(.int p0), (.int p1), (.int p2), (.int p3), (.int p4)] maxLocals s₁ 16 #[vi p0, vi p1, vi p2, vi p3, vi p4, vi ((p1 &&& (2147483647 : Int32)) % (5 : Int32)), vi pr, .unset, .unset, .unset, .unset, .unset] [(.int p3)] := by
  intro t k
  refine k00 t ?_
  refine Pa X00 hx hby at_0 rfl ?_
  refine X00.ldcI hx hown (mvT hZ (Ba hw 0 rfl)) rfl (hb hby at_1) ?_
  refine XS.iand X00.here hx rfl (hb hby at_3) rfl ?_
  refine XS.iconst X00.here hx rfl (hb hby at_4) ?_
  refine iremM X00 hx rfl (hb hby at_5) rfl (by decide) ?_
  refine XS.istore X00.here hx rfl (hb hby at_6) rfl (l' := #[vi p0, vi p1, vi p2, vi p3, vi p4, vi ((p1 &&& (2147483647 : Int32)) % (5 : Int32)), .unset, .unset, .unset, .unset, .unset, .unset]) rfl ?_
  refine Pa X00 hx hby at_8 rfl ?_
  refine XS.bipush X00.here hx rfl (hb hby at_9) ?_
  refine XS.iand X00.here hx rfl (hb hby at_11) rfl ?_
  refine XS.i2c X00.here hx rfl (hb hby at_12) rfl ?_
  show Za p e below m s₁ 13 #[vi p0, vi p1, vi p2, vi p3, vi p4, vi ((p1 &&& (2147483647 : Int32)) % (5 : Int32)), .unset, .unset, .unset, .unset, .unset, .unset] [(.int ((p2 &&& (127 : Int32)).toUInt32.toUInt16.toUInt32.toInt32))] t
  rw [← hpr]
  refine XS.istore X00.here hx rfl (hb hby at_13) rfl (l' := #[vi p0, vi p1, vi p2, vi p3, vi p4, vi ((p1 &&& (2147483647 : Int32)) % (5 : Int32)), vi pr, .unset, .unset, .unset, .unset, .unset]) rfl ?_
  refine Pa X00 hx hby at_15 rfl ?_
  exact k
 obtain ⟨v11, T11, Lc11, X11, hQ11, st11⟩ := Ub X00 hx hZ hown (rm_stt l Z a0 hw [] p3 _ _ _ _ _ _ _ _ _ h0 n0 O0 hE  ) (Ba hw 1 rfl) (Ba hw 2 rfl) (Ba hw 3 rfl) (Ba hw 4 rfl) e00 (g := (mkF m 16 #[vi p0, vi p1, vi p2, vi p3, vi p4, vi ((p1 &&& (2147483647 : Int32)) % (5 : Int32)), vi pr, .unset, .unset, .unset, .unset, .unset] [(.int p3)])) rfl (by rw [hml]; rfl) (argsL := [(.int p3)]) (rest := []) rfl (lenOf Vt rfl) rfl (W := 0) (by show 2 * 0 + _ ≤ _; exact Nat.le_of_eq rfl) (hb hby at_16) (by decide) (by decide) (by decide) (by decide) (by decide)
 obtain ⟨b11, rfl, N11q, O11, Kc11, F11_0⟩ := hQ11
 have N11 := Fr.app N00 N11q
 have K11 := K00.trans Kc11 (fun x hx => nomatch hx)
 have lt_b11 := F11_0.lt
 have k12 : Ab p e below m s₁ #[(.int p0), (.int p1), (.int p2), (.int p3), (.int p4)] maxLocals T11 23 #[vi p0, vi p1, vi p2, vi p3, vi p4, vi ((p1 &&& (2147483647 : Int32)) % (5 : Int32)), vi pr, vr b11, .unset, .unset, .unset, .unset] [(.int ((p1 &&& (2147483647 : Int32)) % (5 : Int32)))] := by
  intro t k
  refine k10 t ?_
  refine st11 _ ?_
  refine XS.astore X11.here hx rfl (hb hby at_19) rfl rfl (l' := #[vi p0, vi p1, vi p2, vi p3, vi p4, vi ((p1 &&& (2147483647 : Int32)) % (5 : Int32)), vi pr, vr b11, .unset, .unset, .unset, .unset]) rfl ?_
  refine Wa X11 hx hby at_21 rfl ?_
  exact k
 by_cases hc13 : ((p1 &&& (2147483647 : Int32)) % (5 : Int32)) = (0 : Int32)
 · obtain ⟨ch, hch⟩ : ∃ z, z = ((p0 &&& (127 : Int32)).toUInt32.toUInt16.toUInt32.toInt32) := ⟨_, rfl⟩
   obtain ⟨a_ch, nb_ch, M4a, nc_ch, pp_ch, nn_ch, le_ch, hh_ch⟩ := L2a hch
   obtain ⟨T14, h14, c14, X14, e14, E14, A14, Ex14, st14⟩ := newPE X11 hx hZ (Ba hw 10 rfl) rfl (g := (mkF m 34 #[vi p0, vi p1, vi p2, vi p3, vi p4, vi ((p1 &&& (2147483647 : Int32)) % (5 : Int32)), vi pr, vr b11, .unset, .unset, vi ch, .unset] [(.int 2)])) rfl (hb hby at_34) rfl (by decide) (cap := 2) (by decide) (by decide) (by decide) (by decide) (ad := "[B") (by decide)
   obtain ⟨b14, g14⟩ : ∃ z, z = T11.heap.size := ⟨_, rfl⟩
   rw [← g14] at A14 st14 Ex14
   have O14 := O11.ext E14
   have g_b14 : n0 ≤ b14 := Nat.le_trans (Nat.le_of_eq O11.1.symm) (Nat.le_trans O11.2.1 (Nat.le_of_eq g14.symm))
   have s_b14 : h0.size ≤ b14 := Nat.le_trans K11.1 (Nat.le_of_eq g14.symm)
   have K14 := K11.ext E14
   have V14 : Arv Z h14 b14 c14 .byte (2 : Int32) [(.int 0), (.int 0)] (.int 0) := (Arv.new A14 (by decide)).pad (pad_rep [] (.int 0) 2)
   have lt_b14 := V14.lt
   obtain ⟨cl15, Ar15, q15, Sz15, Nn15, Hs15, Gf15⟩ := id V14
   have hin16 := inb_of (j := 0) Sz15 ⟨by decide, by decide⟩
   obtain ⟨T17, h17, X17, e17, W17, st17⟩ := stB X14 hx hZ e14 Ar15 (j := 0) hin16 (g := (mkF m 41 #[vi p0, vi p1, vi p2, vi p3, vi p4, vi ((p1 &&& (2147483647 : Int32)) % (5 : Int32)), vi pr, vr b11, .unset, .unset, vi ch, .unset] [(.int pr), (.int 0), (.ref b14), (.ref b14)])) rfl rfl (hb hby at_41)
   have V17 : Arv Z h17 b14 c14 .byte (2 : Int32) [(.int pr), (.int 0)] (.int 0) := by
     have q := Arv.set Ar15 q15 Sz15 Nn15 Hs15 Gf15 (fits_nar_byte _) W17 0 rfl (Nat.le_of_ble_eq_true rfl)
     first | exact q | (simp only [nb_pr, a_pr] at q; exact q)
   have N17 := Fr.snoc X17 N11 g_b14
   have O17 := O14.wr W17 g_b14
   have K17 := K14.wr W17 (Or.inr s_b14)
   obtain ⟨cl18, Ar18, q18, Sz18, Nn18, Hs18, Gf18⟩ := id V17
   have hin19 := inb_of (j := 1) Sz18 ⟨by decide, by decide⟩
   obtain ⟨T20, h20, X20, e20, W20, st20⟩ := stB X17 hx hZ e17 Ar18 (j := 1) hin19 (g := (mkF m 47 #[vi p0, vi p1, vi p2, vi p3, vi p4, vi ((p1 &&& (2147483647 : Int32)) % (5 : Int32)), vi pr, vr b11, .unset, .unset, vi ch, .unset] [(.int ch), (.int 1), (.ref b14), (.ref b14)])) rfl rfl (hb hby at_47)
   have V20 : Arv Z h20 b14 c14 .byte (2 : Int32) [(.int pr), (.int ch)] (.int 0) := by
     have q := Arv.set Ar18 q18 Sz18 Nn18 Hs18 Gf18 (fits_nar_byte _) W20 1 rfl (Nat.le_of_ble_eq_true rfl)
     first | exact q | (simp only [nb_ch, a_ch] at q; exact q)
   have N20 := Fr.snoc X20 N17 g_b14
   have O20 := O17.wr W20 g_b14
   have K20 := K17.wr W20 (Or.inr s_b14)
   obtain ⟨T21, h21, c21, X21, e21, E21, A21, Ex21, st21⟩ := newPE X20 hx hZ (Ba hw 11 rfl) e20 (g := (mkF m 51 #[vi p0, vi p1, vi p2, vi p3, vi p4, vi ((p1 &&& (2147483647 : Int32)) % (5 : Int32)), vi pr, vr b11, vr b14, .unset, vi ch, .unset] [(.int 2)])) rfl (hb hby at_51) rfl (by decide) (cap := 2) (by decide) (by decide) (by decide) (by decide) (ad := "[C") (by decide)
   obtain ⟨b21, g21⟩ : ∃ z, z = h20.size := ⟨_, rfl⟩
   rw [← g21] at A21 st21 Ex21
   have O21 := O20.ext E21
   have g_b21 : n0 ≤ b21 := Nat.le_trans (Nat.le_of_eq O20.1.symm) (Nat.le_trans O20.2.1 (Nat.le_of_eq g21.symm))
   have s_b21 : h0.size ≤ b21 := Nat.le_trans K20.1 (Nat.le_of_eq g21.symm)
   have K21 := K20.ext E21
   have V21 : Arv Z h21 b21 c21 .char (2 : Int32) [(.int 0), (.int 0)] (.int 0) := (Arv.new A21 (by decide)).pad (pad_rep [] (.int 0) 2)
   have lt_b21 := V21.lt
   obtain ⟨cl22, Ar22, q22, Sz22, Nn22, Hs22, Gf22⟩ := id V21
   have hin23 := inb_of (j := 0) Sz22 ⟨by decide, by decide⟩
   obtain ⟨T24, h24, X24, e24, W24, st24⟩ := stC X21 hx hZ e21 Ar22 (j := 0) hin23 (g := (mkF m 57 #[vi p0, vi p1, vi p2, vi p3, vi p4, vi ((p1 &&& (2147483647 : Int32)) % (5 : Int32)), vi pr, vr b11, vr b14, .unset, vi ch, .unset] [(.int pr), (.int 0), (.ref b21), (.ref b21)])) rfl rfl (hb hby at_57)
   have V24 : Arv Z h24 b21 c21 .char (2 : Int32) [(.int pr), (.int 0)] (.int 0) := by
     have q := Arv.set Ar22 q22 Sz22 Nn22 Hs22 Gf22 (fits_nar_char _) W24 0 rfl (Nat.le_of_ble_eq_true rfl)
     first | exact q | (simp only [nc_pr] at q; exact q)
   have N24 := Fr.snoc X24 N20 g_b21
   have O24 := O21.wr W24 g_b21
   have K24 := K21.wr W24 (Or.inr s_b21)
   obtain ⟨cl25, Ar25, q25, Sz25, Nn25, Hs25, Gf25⟩ := id V24
   have hin26 := inb_of (j := 1) Sz25 ⟨by decide, by decide⟩
   obtain ⟨T27, h27, X27, e27, W27, st27⟩ := stC X24 hx hZ e24 Ar25 (j := 1) hin26 (g := (mkF m 62 #[vi p0, vi p1, vi p2, vi p3, vi p4, vi ((p1 &&& (2147483647 : Int32)) % (5 : Int32)), vi pr, vr b11, vr b14, .unset, vi ch, .unset] [(.int ch), (.int 1), (.ref b21), (.ref b21)])) rfl rfl (hb hby at_62)
   have V27 : Arv Z h27 b21 c21 .char (2 : Int32) [(.int pr), (.int ch)] (.int 0) := by
     have q := Arv.set Ar25 q25 Sz25 Nn25 Hs25 Gf25 (fits_nar_char _) W27 1 rfl (Nat.le_of_ble_eq_true rfl)
     first | exact q | (simp only [nc_ch] at q; exact q)
   have N27 := Fr.snoc X27 N24 g_b21
   have O27 := O24.wr W27 g_b21
   have K27 := K24.wr W27 (Or.inr s_b21)
   obtain ⟨T28, h28, X28, e28, E28, A28, D28, -, st28⟩ := newO X27 hx hZ hown (Ba hw 14 rfl) (Ba hw 15 rfl) (Ba hw 16 rfl) e27 (g := (mkF m 462 #[vi p0, vi p1, vi p2, vi p3, vi p4, vi ((p1 &&& (2147483647 : Int32)) % (5 : Int32)), vi pr, vr b11, vr b14, vr b21, vi ch, .unset] [])) rfl (hb hby at_462) (by decide) (by decide)
   obtain ⟨b28, g28⟩ : ∃ z, z = h27.size := ⟨_, rfl⟩
   rw [← g28] at A28 D28 st28
   have O28 := O27.ext E28
   have g_b28 : n0 ≤ b28 := Nat.le_trans (Nat.le_of_eq O27.1.symm) (Nat.le_trans O27.2.1 (Nat.le_of_eq g28.symm))
   have s_b28 : h0.size ≤ b28 := Nat.le_trans K27.1 (Nat.le_of_eq g28.symm)
   have K28 := K27.ext E28
   have lt_b28 := A28.lt
   have F28_status : Fld Z h28 b28 "com/example/attenuation/attenuation/core/Outcome" "status" "Lcom/example/attenuation/attenuation/core/Outcome$Status;" .null := D28 (Or.inr (Ba hw 41 rfl)) (ty := (.object "com/example/attenuation/attenuation/core/Outcome$Status")) (by decide)
   have F28_body : Fld Z h28 b28 "com/example/attenuation/attenuation/core/Outcome" "body" "[B" .null := D28 (Or.inr (Ba hw 43 rfl)) (ty := (.array .byte)) (by decide)
   obtain ⟨_, _, ⟨T29, L29, k29, n29⟩, -, X29, hS29, hg29, ⟨Lc29, hQ29, l29, y29, z29⟩, st29⟩ := X28.specialBackS hx (y := Rba) rfl hown (mvT hZ (Ba hw 17 rfl)) (mvT hZ (Ba hw 18 rfl)) (mvT hZ (Ba hw 19 rfl)) (by decide) (backOfS (W := 1) (Zwa l Z a0 hw [] b28 b11 b14 _ _ _ _ _ _ _ _ _ h28 n0 O28 hE F28_status F28_body A28 g_b28 ) hZ (Ba hw 19 rfl) (Ba hw 16 rfl) (by decide) (by decide)) (g := (mkF m 470 #[vi p0, vi p1, vi p2, vi p3, vi p4, vi ((p1 &&& (2147483647 : Int32)) % (5 : Int32)), vi pr, vr b11, vr b14, vr b21, vi ch, .unset] [(.ref b14), (.ref b11), (.ref b28), (.ref b28)])) rfl (by rw [hml]; rfl) (Steps.refl _) (a := b28) (argsL := [(.ref b11), (.ref b14)]) (rest := [(.ref b28)]) (lenOf Uc rfl) rfl (by show 2 * 0 + _ ≤ _; exact Nat.le_of_eq rfl) (hb hby at_470) (fun _ _ => ⟨rfl, e28, (by decide : 3 + 4 ≤ _), (by decide : 6 + 48 ≤ _)⟩)
   dsimp only [Pt.U, Pt.locs, Pt.cells, Pt.slots] at X29 l29 y29 z29 st29 hQ29 hS29 hg29
   subst l29 y29 z29
   obtain ⟨X29, hS, hZ, hown⟩ := rebS hS (by rw [e28]; exact (Nat.le_trans (Nat.le_trans (Nat.le_trans (Nat.le_trans (Nat.le_trans (Nat.le_trans (Nat.le_trans (Nat.le_trans (Nat.zero_le _) Kc11.1) E14.1) (Keep.of_wr W17).1) (Keep.of_wr W20).1) E21.1) (Keep.of_wr W24).1) (Keep.of_wr W27).1) E28.1)) X29 hS29 hg29 hZ hown
   obtain ⟨rfl, N29q, O29, Kc29, Ex29, G29_0, G29_1⟩ := hQ29
   have N29 := Fr.app N27 N29q
   have K29 := K28.trans Kc29 (allS (Or.inr s_b28) all0)
   have ne30 : ¬ (b14 = b21) := (Nat.ne_of_lt (Nat.lt_of_lt_of_le (Nat.lt_of_lt_of_le (Nat.lt_of_lt_of_le lt_b14 (Keep.of_wr W17).1) (Keep.of_wr W20).1) (Nat.le_of_eq g21.symm)))
   have ne31 : ¬ (b14 = b28) := (Nat.ne_of_lt (Nat.lt_of_lt_of_le (Nat.lt_of_lt_of_le (Nat.lt_of_lt_of_le (Nat.lt_of_lt_of_le (Nat.lt_of_lt_of_le (Nat.lt_of_lt_of_le lt_b14 (Keep.of_wr W17).1) (Keep.of_wr W20).1) E21.1) (Keep.of_wr W24).1) (Keep.of_wr W27).1) (Nat.le_of_eq g28.symm)))
   have f32 := (((((V20.ext E21).other W24 ne30).other W27 ne30).ext E28).keep Kc29 (fun q => ne31 (List.mem_singleton.mp q)))
   have f33 := (((((((Ex14.wr W17).wr W20).ext E21).wr W24).wr W27).ext E28).keep Kc29)
   obtain ⟨v34, T34, Lc34, X34, hQ34, st34⟩ := Z6 X29 hx hZ hown (a := b28) (Gab l Z a0 hw [] b28 b14 c14 pr ch _ _ _ _ _ _ _ _ _ T29.heap n0 O29 hE G29_1 Ex29 f32 f33 nn_pr nn_ch) (Ba hw 44 rfl) (Ba hw 45 rfl) (Ba hw 47 rfl) (Ba hw 46 rfl) (notFace_of_selects (args := #[]) (mvT hZ (Ba hw 47 rfl))) (Ba hw 16 rfl) (Ba hw 48 rfl) rfl Ex29 (g := (mkF m 473 #[vi p0, vi p1, vi p2, vi p3, vi p4, vi ((p1 &&& (2147483647 : Int32)) % (5 : Int32)), vi pr, vr b11, vr b14, vr b21, vi ch, .unset] [(.ref b28)])) rfl (by rw [hml]; rfl) (argsL := []) (rest := []) rfl (lenOf Dm rfl) rfl (W := 0) (by show 2 * 0 + _ ≤ _; exact Nat.le_of_eq rfl) (hb hby at_473) (by decide) (by decide) (by decide) (by decide) (by decide)
   obtain ⟨s34, b34, k34, rfl, N34q, O34, Kc34, g_s34, gs_s34, g_b34, gs_b34, ne_s_b34, F34_0, F34_1, F34_2, F34_3⟩ := hQ34
   have N34 := Fr.app N29 N34q
   have K34 := K29.trans Kc34 (fun x hx => nomatch hx)
   have s_s34 := Nat.le_trans K29.1 gs_s34
   have s_b34 := Nat.le_trans K29.1 gs_b34
   have lt_s34 := F34_0.lt
   have lt_b34 := F34_3.lt
   obtain ⟨T35, h35, X35, e35, E35, A35, D35, -, st35⟩ := newO X34 hx hZ hown (Ba hw 158 rfl) (Ba hw 30 rfl) (Ba hw 29 rfl) rfl (g := (mkF m 478 #[vi p0, vi p1, vi p2, vi p3, vi p4, vi ((p1 &&& (2147483647 : Int32)) % (5 : Int32)), vi pr, vr b11, vr b14, vr b21, vr s34, .unset] [])) rfl (hb hby at_478) (by decide) (by decide)
   obtain ⟨b35, g35⟩ : ∃ z, z = T34.heap.size := ⟨_, rfl⟩
   rw [← g35] at A35 D35 st35
   have O35 := O34.ext E35
   have g_b35 : n0 ≤ b35 := Nat.le_trans (Nat.le_of_eq O34.1.symm) (Nat.le_trans O34.2.1 (Nat.le_of_eq g35.symm))
   have s_b35 : h0.size ≤ b35 := Nat.le_trans K34.1 (Nat.le_of_eq g35.symm)
   have K35 := K34.ext E35
   have lt_b35 := A35.lt
   have F35_value : Fld Z h35 b35 "java/lang/String" "value" "[B" .null := D35 (Or.inr (Ba hw 31 rfl)) (ty := (.array .byte)) (by decide)
   have F35_coder : Fld Z h35 b35 "java/lang/String" "coder" "B" (.int 0) := D35 (Or.inr (Ba hw 32 rfl)) (ty := .byte) (by decide)
   have ne36 : ¬ (b21 = b35) := (Nat.ne_of_lt (Nat.lt_of_lt_of_le (Nat.lt_of_lt_of_le (Nat.lt_of_lt_of_le (Nat.lt_of_lt_of_le (Nat.lt_of_lt_of_le (Nat.lt_of_lt_of_le lt_b21 (Keep.of_wr W24).1) (Keep.of_wr W27).1) E28.1) Kc29.1) Kc34.1) (Nat.le_of_eq g35.symm)))
   have ne37 : ¬ (b21 = b28) := (Nat.ne_of_lt (Nat.lt_of_lt_of_le (Nat.lt_of_lt_of_le (Nat.lt_of_lt_of_le lt_b21 (Keep.of_wr W24).1) (Keep.of_wr W27).1) (Nat.le_of_eq g28.symm)))
   have f38 := ((((V27.ext E28).keep Kc29 (fun q => ne37 (List.mem_singleton.mp q))).keep Kc34 List.not_mem_nil).ext E35)
   obtain ⟨v39, T39, Lc39, X39, hQ39, st39⟩ := G1 X35 hx hZ hown (a := b35) (W1a l Z a0 hw [] b35 b21 c21 pr ch _ _ _ _ _ _ _ _ _ h35 n0 O35 hE f38 A35 F35_value F35_coder g_b35 ne36 le_pr le_ch) (Ba hw 159 rfl) (Ba hw 160 rfl) (Ba hw 29 rfl) (Ba hw 161 rfl) e35 (g := (mkF m 484 #[vi p0, vi p1, vi p2, vi p3, vi p4, vi ((p1 &&& (2147483647 : Int32)) % (5 : Int32)), vi pr, vr b11, vr b14, vr b21, vr s34, .unset] [(.ref b21), (.ref b35), (.ref b35)])) rfl (by rw [hml]; rfl) (argsL := [(.ref b21)]) (rest := [(.ref b35)]) rfl (lenOf Gca rfl) rfl (W := 1) (by show 2 * 0 + _ ≤ _; exact Nat.le_of_eq rfl) (hb hby at_484) (by decide) (by decide) (by decide) (by decide) rfl (by decide)
   obtain ⟨b39, k39, rfl, N39q, O39, Kc39, g_b39, gs_b39, F39_0, F39_1, F39_2, F39_3⟩ := hQ39
   have N39 := Fr.app N34 N39q
   have K39 := K35.trans Kc39 (allS (Or.inr s_b35) all0)
   have s_b39 := Nat.le_trans K35.1 gs_b39
   have lt_b39 := F39_3.lt
   have ne40 : ¬ (b35 = s34) := (Ne.symm (Nat.ne_of_lt (Nat.lt_of_lt_of_le lt_s34 (Nat.le_of_eq g35.symm))))
   have f41 := ((F34_0.ext E35).keep Kc39)
   have f42 := ((F34_1.ext E35).keep Kc39 (fun q => (Ne.symm ne40) (List.mem_singleton.mp q)))
   have f43 := ((F34_2.ext E35).keep Kc39 (fun q => (Ne.symm ne40) (List.mem_singleton.mp q)))
   have ne44 : ¬ (b34 = b35) := (Nat.ne_of_lt (Nat.lt_of_lt_of_le lt_b34 (Nat.le_of_eq g35.symm)))
   have f45 := ((F34_3.ext E35).keep Kc39 (fun q => ne44 (List.mem_singleton.mp q)))
   obtain ⟨v46, T46, Lc46, X46, hQ46, st46⟩ := Z6 X39 hx hZ hown (a := b35) (H5a l Z a0 hw [] b35 s34 b39 b34 k39 k34 (pr.toInt8.toInt32) (ch.toInt8.toInt32) pr ch _ _ _ _ _ _ _ _ _ T39.heap n0 O39 hE F39_0 F39_1 F39_2 F39_3 f41 f42 f43 f45 ne40 a_pr a_ch) (Ba hw 181 rfl) (Ba hw 182 rfl) (Ba hw 184 rfl) (Ba hw 183 rfl) (notFace_of_selects (args := #[]) (mvT hZ (Ba hw 184 rfl))) (Ba hw 29 rfl) (Ba hw 185 rfl) rfl F39_0 (g := (mkF m 489 #[vi p0, vi p1, vi p2, vi p3, vi p4, vi ((p1 &&& (2147483647 : Int32)) % (5 : Int32)), vi pr, vr b11, vr b14, vr b21, vr s34, .unset] [(.ref s34), (.ref b35)])) rfl (by rw [hml]; rfl) (argsL := [(.ref s34)]) (rest := []) rfl (lenOf Dl rfl) rfl (W := 0) (by show 2 * 0 + _ ≤ _; exact Nat.le_of_eq rfl) (hb hby at_489) (by decide) (by decide) (by decide) (by decide) (by decide)
   obtain ⟨rfl, N46q, hp46⟩ := hQ46
   have N46 := Fr.app N39 N46q
   have k47 : Ab p e below m s₁ #[(.int p0), (.int p1), (.int p2), (.int p3), (.int p4)] maxLocals T46 492 #[vi p0, vi p1, vi p2, vi p3, vi p4, vi ((p1 &&& (2147483647 : Int32)) % (5 : Int32)), vi pr, vr b11, vr b14, vr b21, vr s34, .unset] [(.int 1)] := by
    intro t k
    refine k12 t ?_
    refine XS.ifNo X11.here hx rfl (hb hby at_23) rfl ((if0 _ _).trans (teq hc13).2) ?_
    refine Pa X11 hx hby at_26 rfl ?_
    refine XS.bipush X11.here hx rfl (hb hby at_27) ?_
    refine XS.iand X11.here hx rfl (hb hby at_29) rfl ?_
    refine XS.i2c X11.here hx rfl (hb hby at_30) rfl ?_
    show Za p e below m T11 31 #[vi p0, vi p1, vi p2, vi p3, vi p4, vi ((p1 &&& (2147483647 : Int32)) % (5 : Int32)), vi pr, vr b11, .unset, .unset, .unset, .unset] [(.int ((p0 &&& (127 : Int32)).toUInt32.toUInt16.toUInt32.toInt32))] t
    rw [← hch]
    refine XS.istore X11.here hx rfl (hb hby at_31) rfl (l' := #[vi p0, vi p1, vi p2, vi p3, vi p4, vi ((p1 &&& (2147483647 : Int32)) % (5 : Int32)), vi pr, vr b11, .unset, .unset, vi ch, .unset]) rfl ?_
    refine XS.iconst X11.here hx rfl (hb hby at_33) ?_
    refine st14 _ ?_
    refine XS.dup X14.here hx rfl (hb hby at_36) rfl rfl ?_
    refine XS.iconst X14.here hx rfl (hb hby at_37) ?_
    refine Wa X14 hx hby at_38 rfl ?_
    refine XS.i2b X14.here hx rfl (hb hby at_40) rfl ?_
    show Za p e below m T14 41 #[vi p0, vi p1, vi p2, vi p3, vi p4, vi ((p1 &&& (2147483647 : Int32)) % (5 : Int32)), vi pr, vr b11, .unset, .unset, vi ch, .unset] [(.int (pr.toInt8.toInt32)), (.int 0), (.ref b14), (.ref b14)] t
    rw [a_pr]
    refine st17 _ ?_
    refine XS.dup X17.here hx rfl (hb hby at_42) rfl rfl ?_
    refine XS.iconst X17.here hx rfl (hb hby at_43) ?_
    refine Wa X17 hx hby at_44 rfl ?_
    refine XS.i2b X17.here hx rfl (hb hby at_46) rfl ?_
    show Za p e below m T17 47 #[vi p0, vi p1, vi p2, vi p3, vi p4, vi ((p1 &&& (2147483647 : Int32)) % (5 : Int32)), vi pr, vr b11, .unset, .unset, vi ch, .unset] [(.int (ch.toInt8.toInt32)), (.int 1), (.ref b14), (.ref b14)] t
    rw [a_ch]
    refine st20 _ ?_
    refine XS.astore X20.here hx rfl (hb hby at_48) rfl rfl (l' := #[vi p0, vi p1, vi p2, vi p3, vi p4, vi ((p1 &&& (2147483647 : Int32)) % (5 : Int32)), vi pr, vr b11, vr b14, .unset, vi ch, .unset]) rfl ?_
    refine XS.iconst X20.here hx rfl (hb hby at_50) ?_
    refine st21 _ ?_
    refine XS.dup X21.here hx rfl (hb hby at_53) rfl rfl ?_
    refine XS.iconst X21.here hx rfl (hb hby at_54) ?_
    refine Wa X21 hx hby at_55 rfl ?_
    refine st24 _ ?_
    refine XS.dup X24.here hx rfl (hb hby at_58) rfl rfl ?_
    refine XS.iconst X24.here hx rfl (hb hby at_59) ?_
    refine Wa X24 hx hby at_60 rfl ?_
    show Za p e below m T24 62 #[vi p0, vi p1, vi p2, vi p3, vi p4, vi ((p1 &&& (2147483647 : Int32)) % (5 : Int32)), vi pr, vr b11, vr b14, .unset, vi ch, .unset] [(.int ch), (.int 1), (.ref b21), (.ref b21)] t
    refine st27 _ ?_
    refine XS.astore X27.here hx rfl (hb hby at_63) rfl rfl (l' := #[vi p0, vi p1, vi p2, vi p3, vi p4, vi ((p1 &&& (2147483647 : Int32)) % (5 : Int32)), vi pr, vr b11, vr b14, vr b21, vi ch, .unset]) rfl ?_
    refine XS.goto X27.here hx rfl (pc0 := 65) (pc' := 462) rfl (hb hby at_65) (by decide) (by decide) ?_
    refine st28 _ ?_
    refine XS.dup X28.here hx rfl (hb hby at_465) rfl rfl ?_
    refine Dd X28 hx hby at_466 rfl rfl ?_
    refine Dd X28 hx hby at_468 rfl rfl ?_
    refine st29.trans ?_
    refine st34 _ ?_
    refine XS.astore X34.here hx rfl (hb hby at_476) rfl rfl (l' := #[vi p0, vi p1, vi p2, vi p3, vi p4, vi ((p1 &&& (2147483647 : Int32)) % (5 : Int32)), vi pr, vr b11, vr b14, vr b21, vr s34, .unset]) rfl ?_
    refine st35 _ ?_
    refine XS.dup X35.here hx rfl (hb hby at_481) rfl rfl ?_
    show Za p e below m T35 482 #[vi p0, vi p1, vi p2, vi p3, vi p4, vi ((p1 &&& (2147483647 : Int32)) % (5 : Int32)), vi pr, vr b11, vr b14, vr b21, vr s34, .unset] [(.ref b35), (.ref b35)] t
    refine Dd X35 hx hby at_482 rfl rfl ?_
    refine st39 _ ?_
    refine Dd X39 hx hby at_487 rfl rfl ?_
    refine st46 _ ?_
    exact k
   obtain ⟨fs, hr, hrun, hended, hRW⟩ := X46.leaveW hS (by rw [hp46]; exact (Nat.le_trans (Nat.le_trans (Nat.le_trans (Nat.le_refl _) Kc34.1) E35.1) Kc39.1)) (v := some (.int 1)) (fun h => by rw [Bd.returns] at h; cases h)
   refine hNG ⟨_, _, k47 _ ?_, hrun, hended, _, _, rfl, ?_, hRW.1, hRW.2.1, hRW.2.2.1, hRW.2.2.2.mono (by decide) (by decide)⟩
   · exact retN X46 hx (t := .boolean) Bd.returns (by simp) (hb hby at_492) hr
   · show Lxa Z p0 p1 p2 p3 p4 Ra Ya Ia Ua Ka Ga Ma Da Aa h0 n0 _ T46.heap _
     rw [hp46]
     exact ⟨rfl, N46⟩
 · have k48 : Ab p e below m s₁ #[(.int p0), (.int p1), (.int p2), (.int p3), (.int p4)] maxLocals T11 71 #[vi p0, vi p1, vi p2, vi p3, vi p4, vi ((p1 &&& (2147483647 : Int32)) % (5 : Int32)), vi pr, vr b11, .unset, .unset, .unset, .unset] [(.int 1), (.int ((p1 &&& (2147483647 : Int32)) % (5 : Int32)))] := by
    intro t k
    refine k12 t ?_
    refine XS.ifYes X11.here hx rfl (pc0 := 23) (pc' := 68) rfl (hb hby at_23) rfl ((if0 _ _).trans (feq hc13).2) (by decide) (by decide) ?_
    refine Wa X11 hx hby at_68 rfl ?_
    refine XS.iconst X11.here hx rfl (hb hby at_70) ?_
    exact k
   by_cases hc49 : ((p1 &&& (2147483647 : Int32)) % (5 : Int32)) = (1 : Int32)
   · obtain ⟨cp, hcp⟩ : ∃ z, z = ((128 : Int32) + ((p0 &&& (2147483647 : Int32)) % (1920 : Int32))) := ⟨_, rfl⟩
     have r_cp := own_c1 hcp
     have Pza := D1a (x := cp) (by omega)
     have nc_cp : nar .char cp = cp := Pza
     have lh_cp := Dwa (x := cp) (by omega)
     have k50 : Ab p e below m s₁ #[(.int p0), (.int p1), (.int p2), (.int p3), (.int p4)] maxLocals T11 88 #[vi p0, vi p1, vi p2, vi p3, vi p4, vi ((p1 &&& (2147483647 : Int32)) % (5 : Int32)), vi pr, vr b11, .unset, .unset, vi cp, .unset] [] := by
      intro t k
      refine k48 t ?_
      refine XS.icmpNo X11.here hx rfl (hb hby at_71) rfl (teq hc49).2 ?_
      refine XS.sipush X11.here hx rfl (hb hby at_74) ?_
      refine Pa X11 hx hby at_77 rfl ?_
      refine X11.ldcI hx hown (mvT hZ (Ba hw 0 rfl)) rfl (hb hby at_78) ?_
      refine XS.iand X11.here hx rfl (hb hby at_80) rfl ?_
      refine XS.sipush X11.here hx rfl (hb hby at_81) ?_
      refine iremM X11 hx rfl (hb hby at_84) rfl (by decide) ?_
      refine XS.iadd X11.here hx rfl (hb hby at_85) rfl ?_
      show Za p e below m T11 86 #[vi p0, vi p1, vi p2, vi p3, vi p4, vi ((p1 &&& (2147483647 : Int32)) % (5 : Int32)), vi pr, vr b11, .unset, .unset, .unset, .unset] [(.int ((128 : Int32) + ((p0 &&& (2147483647 : Int32)) % (1920 : Int32))))] t
      rw [← hcp]
      refine XS.istore X11.here hx rfl (hb hby at_86) rfl (l' := #[vi p0, vi p1, vi p2, vi p3, vi p4, vi ((p1 &&& (2147483647 : Int32)) % (5 : Int32)), vi pr, vr b11, .unset, .unset, vi cp, .unset]) rfl ?_
      exact k
     by_cases hc51 : cp < (256 : Int32)
     · obtain ⟨T52, h52, c52, X52, e52, E52, A52, Ex52, st52⟩ := newPE X11 hx hZ (Ba hw 10 rfl) rfl (g := (mkF m 89 #[vi p0, vi p1, vi p2, vi p3, vi p4, vi ((p1 &&& (2147483647 : Int32)) % (5 : Int32)), vi pr, vr b11, .unset, .unset, vi cp, .unset] [(.int 3)])) rfl (hb hby at_89) rfl (by decide) (cap := 3) (by decide) (by decide) (by decide) (by decide) (ad := "[B") (by decide)
       obtain ⟨b52, g52⟩ : ∃ z, z = T11.heap.size := ⟨_, rfl⟩
       rw [← g52] at A52 st52 Ex52
       have O52 := O11.ext E52
       have g_b52 : n0 ≤ b52 := Nat.le_trans (Nat.le_of_eq O11.1.symm) (Nat.le_trans O11.2.1 (Nat.le_of_eq g52.symm))
       have s_b52 : h0.size ≤ b52 := Nat.le_trans K11.1 (Nat.le_of_eq g52.symm)
       have K52 := K11.ext E52
       have V52 : Arv Z h52 b52 c52 .byte (3 : Int32) [(.int 0), (.int 0), (.int 0)] (.int 0) := (Arv.new A52 (by decide)).pad (pad_rep [] (.int 0) 3)
       have lt_b52 := V52.lt
       obtain ⟨cl53, Ar53, q53, Sz53, Nn53, Hs53, Gf53⟩ := id V52
       have hin54 := inb_of (j := 0) Sz53 ⟨by decide, by decide⟩
       obtain ⟨T55, h55, X55, e55, W55, st55⟩ := stB X52 hx hZ e52 Ar53 (j := 0) hin54 (g := (mkF m 96 #[vi p0, vi p1, vi p2, vi p3, vi p4, vi ((p1 &&& (2147483647 : Int32)) % (5 : Int32)), vi pr, vr b11, .unset, .unset, vi cp, .unset] [(.int pr), (.int 0), (.ref b52), (.ref b52)])) rfl rfl (hb hby at_96)
       have V55 : Arv Z h55 b52 c52 .byte (3 : Int32) [(.int pr), (.int 0), (.int 0)] (.int 0) := by
         have q := Arv.set Ar53 q53 Sz53 Nn53 Hs53 Gf53 (fits_nar_byte _) W55 0 rfl (Nat.le_of_ble_eq_true rfl)
         first | exact q | (simp only [nb_pr, a_pr] at q; exact q)
       have N55 := Fr.snoc X55 N11 g_b52
       have O55 := O52.wr W55 g_b52
       have K55 := K52.wr W55 (Or.inr s_b52)
       obtain ⟨y1, hy1⟩ : ∃ z, z = (((192 : Int32) ||| (cp >>> ((6 : Int32) &&& 31))).toInt8.toInt32) := ⟨_, rfl⟩
       have nb_y1 : nar .byte y1 = y1 := by rw [hy1]; exact Pd _
       have a_y1 : (y1.toInt8.toInt32) = y1 := nb_y1
       obtain ⟨cl56, Ar56, q56, Sz56, Nn56, Hs56, Gf56⟩ := id V55
       have hin57 := inb_of (j := 1) Sz56 ⟨by decide, by decide⟩
       obtain ⟨T58, h58, X58, e58, W58, st58⟩ := stB X55 hx hZ e55 Ar56 (j := 1) hin57 (g := (mkF m 109 #[vi p0, vi p1, vi p2, vi p3, vi p4, vi ((p1 &&& (2147483647 : Int32)) % (5 : Int32)), vi pr, vr b11, .unset, .unset, vi cp, .unset] [(.int y1), (.int 1), (.ref b52), (.ref b52)])) rfl rfl (hb hby at_109)
       have V58 : Arv Z h58 b52 c52 .byte (3 : Int32) [(.int pr), (.int y1), (.int 0)] (.int 0) := by
         have q := Arv.set Ar56 q56 Sz56 Nn56 Hs56 Gf56 (fits_nar_byte _) W58 1 rfl (Nat.le_of_ble_eq_true rfl)
         first | exact q | (simp only [nb_y1, a_y1] at q; exact q)
       have N58 := Fr.snoc X58 N55 g_b52
       have O58 := O55.wr W58 g_b52
       have K58 := K55.wr W58 (Or.inr s_b52)
       obtain ⟨y2, hy2⟩ : ∃ z, z = (((128 : Int32) ||| (cp &&& (63 : Int32))).toInt8.toInt32) := ⟨_, rfl⟩
       have nb_y2 : nar .byte y2 = y2 := by rw [hy2]; exact Pd _
       have a_y2 : (y2.toInt8.toInt32) = y2 := nb_y2
       obtain ⟨cl59, Ar59, q59, Sz59, Nn59, Hs59, Gf59⟩ := id V58
       have hin60 := inb_of (j := 2) Sz59 ⟨by decide, by decide⟩
       obtain ⟨T61, h61, X61, e61, W61, st61⟩ := stB X58 hx hZ e58 Ar59 (j := 2) hin60 (g := (mkF m 122 #[vi p0, vi p1, vi p2, vi p3, vi p4, vi ((p1 &&& (2147483647 : Int32)) % (5 : Int32)), vi pr, vr b11, .unset, .unset, vi cp, .unset] [(.int y2), (.int 2), (.ref b52), (.ref b52)])) rfl rfl (hb hby at_122)
       have V61 : Arv Z h61 b52 c52 .byte (3 : Int32) [(.int pr), (.int y1), (.int y2)] (.int 0) := by
         have q := Arv.set Ar59 q59 Sz59 Nn59 Hs59 Gf59 (fits_nar_byte _) W61 2 rfl (Nat.le_of_ble_eq_true rfl)
         first | exact q | (simp only [nb_y2, a_y2] at q; exact q)
       have N61 := Fr.snoc X61 N58 g_b52
       have O61 := O58.wr W61 g_b52
       have K61 := K58.wr W61 (Or.inr s_b52)
       obtain ⟨T62, h62, c62, X62, e62, E62, A62, Ex62, st62⟩ := newPE X61 hx hZ (Ba hw 11 rfl) e61 (g := (mkF m 126 #[vi p0, vi p1, vi p2, vi p3, vi p4, vi ((p1 &&& (2147483647 : Int32)) % (5 : Int32)), vi pr, vr b11, vr b52, .unset, vi cp, .unset] [(.int 2)])) rfl (hb hby at_126) rfl (by decide) (cap := 2) (by decide) (by decide) (by decide) (by decide) (ad := "[C") (by decide)
       obtain ⟨b62, g62⟩ : ∃ z, z = h61.size := ⟨_, rfl⟩
       rw [← g62] at A62 st62 Ex62
       have O62 := O61.ext E62
       have g_b62 : n0 ≤ b62 := Nat.le_trans (Nat.le_of_eq O61.1.symm) (Nat.le_trans O61.2.1 (Nat.le_of_eq g62.symm))
       have s_b62 : h0.size ≤ b62 := Nat.le_trans K61.1 (Nat.le_of_eq g62.symm)
       have K62 := K61.ext E62
       have V62 : Arv Z h62 b62 c62 .char (2 : Int32) [(.int 0), (.int 0)] (.int 0) := (Arv.new A62 (by decide)).pad (pad_rep [] (.int 0) 2)
       have lt_b62 := V62.lt
       obtain ⟨cl63, Ar63, q63, Sz63, Nn63, Hs63, Gf63⟩ := id V62
       have hin64 := inb_of (j := 0) Sz63 ⟨by decide, by decide⟩
       obtain ⟨T65, h65, X65, e65, W65, st65⟩ := stC X62 hx hZ e62 Ar63 (j := 0) hin64 (g := (mkF m 132 #[vi p0, vi p1, vi p2, vi p3, vi p4, vi ((p1 &&& (2147483647 : Int32)) % (5 : Int32)), vi pr, vr b11, vr b52, .unset, vi cp, .unset] [(.int pr), (.int 0), (.ref b62), (.ref b62)])) rfl rfl (hb hby at_132)
       have V65 : Arv Z h65 b62 c62 .char (2 : Int32) [(.int pr), (.int 0)] (.int 0) := by
         have q := Arv.set Ar63 q63 Sz63 Nn63 Hs63 Gf63 (fits_nar_char _) W65 0 rfl (Nat.le_of_ble_eq_true rfl)
         first | exact q | (simp only [nc_pr] at q; exact q)
       have N65 := Fr.snoc X65 N61 g_b62
       have O65 := O62.wr W65 g_b62
       have K65 := K62.wr W65 (Or.inr s_b62)
       obtain ⟨cl66, Ar66, q66, Sz66, Nn66, Hs66, Gf66⟩ := id V65
       have hin67 := inb_of (j := 1) Sz66 ⟨by decide, by decide⟩
       obtain ⟨T68, h68, X68, e68, W68, st68⟩ := stC X65 hx hZ e65 Ar66 (j := 1) hin67 (g := (mkF m 138 #[vi p0, vi p1, vi p2, vi p3, vi p4, vi ((p1 &&& (2147483647 : Int32)) % (5 : Int32)), vi pr, vr b11, vr b52, .unset, vi cp, .unset] [(.int cp), (.int 1), (.ref b62), (.ref b62)])) rfl rfl (hb hby at_138)
       have V68 : Arv Z h68 b62 c62 .char (2 : Int32) [(.int pr), (.int cp)] (.int 0) := by
         have q := Arv.set Ar66 q66 Sz66 Nn66 Hs66 Gf66 (fits_nar_char _) W68 1 rfl (Nat.le_of_ble_eq_true rfl)
         first | exact q | (simp only [nc_cp] at q; exact q)
       have N68 := Fr.snoc X68 N65 g_b62
       have O68 := O65.wr W68 g_b62
       have K68 := K65.wr W68 (Or.inr s_b62)
       obtain ⟨T69, h69, X69, e69, E69, A69, D69, -, st69⟩ := newO X68 hx hZ hown (Ba hw 14 rfl) (Ba hw 15 rfl) (Ba hw 16 rfl) e68 (g := (mkF m 462 #[vi p0, vi p1, vi p2, vi p3, vi p4, vi ((p1 &&& (2147483647 : Int32)) % (5 : Int32)), vi pr, vr b11, vr b52, vr b62, vi cp, .unset] [])) rfl (hb hby at_462) (by decide) (by decide)
       obtain ⟨b69, g69⟩ : ∃ z, z = h68.size := ⟨_, rfl⟩
       rw [← g69] at A69 D69 st69
       have O69 := O68.ext E69
       have g_b69 : n0 ≤ b69 := Nat.le_trans (Nat.le_of_eq O68.1.symm) (Nat.le_trans O68.2.1 (Nat.le_of_eq g69.symm))
       have s_b69 : h0.size ≤ b69 := Nat.le_trans K68.1 (Nat.le_of_eq g69.symm)
       have K69 := K68.ext E69
       have lt_b69 := A69.lt
       have F69_status : Fld Z h69 b69 "com/example/attenuation/attenuation/core/Outcome" "status" "Lcom/example/attenuation/attenuation/core/Outcome$Status;" .null := D69 (Or.inr (Ba hw 41 rfl)) (ty := (.object "com/example/attenuation/attenuation/core/Outcome$Status")) (by decide)
       have F69_body : Fld Z h69 b69 "com/example/attenuation/attenuation/core/Outcome" "body" "[B" .null := D69 (Or.inr (Ba hw 43 rfl)) (ty := (.array .byte)) (by decide)
       obtain ⟨_, _, ⟨T70, L70, k70, n70⟩, -, X70, hS70, hg70, ⟨Lc70, hQ70, l70, y70, z70⟩, st70⟩ := X69.specialBackS hx (y := Rba) rfl hown (mvT hZ (Ba hw 17 rfl)) (mvT hZ (Ba hw 18 rfl)) (mvT hZ (Ba hw 19 rfl)) (by decide) (backOfS (W := 1) (Zwa l Z a0 hw [] b69 b11 b52 _ _ _ _ _ _ _ _ _ h69 n0 O69 hE F69_status F69_body A69 g_b69 ) hZ (Ba hw 19 rfl) (Ba hw 16 rfl) (by decide) (by decide)) (g := (mkF m 470 #[vi p0, vi p1, vi p2, vi p3, vi p4, vi ((p1 &&& (2147483647 : Int32)) % (5 : Int32)), vi pr, vr b11, vr b52, vr b62, vi cp, .unset] [(.ref b52), (.ref b11), (.ref b69), (.ref b69)])) rfl (by rw [hml]; rfl) (Steps.refl _) (a := b69) (argsL := [(.ref b11), (.ref b52)]) (rest := [(.ref b69)]) (lenOf Uc rfl) rfl (by show 2 * 0 + _ ≤ _; exact Nat.le_of_eq rfl) (hb hby at_470) (fun _ _ => ⟨rfl, e69, (by decide : 3 + 4 ≤ _), (by decide : 7 + 48 ≤ _)⟩)
       dsimp only [Pt.U, Pt.locs, Pt.cells, Pt.slots] at X70 l70 y70 z70 st70 hQ70 hS70 hg70
       subst l70 y70 z70
       obtain ⟨X70, hS, hZ, hown⟩ := rebS hS (by rw [e69]; exact (Nat.le_trans (Nat.le_trans (Nat.le_trans (Nat.le_trans (Nat.le_trans (Nat.le_trans (Nat.le_trans (Nat.le_trans (Nat.le_trans (Nat.zero_le _) Kc11.1) E52.1) (Keep.of_wr W55).1) (Keep.of_wr W58).1) (Keep.of_wr W61).1) E62.1) (Keep.of_wr W65).1) (Keep.of_wr W68).1) E69.1)) X70 hS70 hg70 hZ hown
       obtain ⟨rfl, N70q, O70, Kc70, Ex70, G70_0, G70_1⟩ := hQ70
       have N70 := Fr.app N68 N70q
       have K70 := K69.trans Kc70 (allS (Or.inr s_b69) all0)
       obtain ⟨q_1, q_2, q_3, q_4, q_5, q_6, q_7, q_d⟩ := L5a hy1 hy2 r_cp
       have ne71 : ¬ (b52 = b62) := (Nat.ne_of_lt (Nat.lt_of_lt_of_le (Nat.lt_of_lt_of_le (Nat.lt_of_lt_of_le (Nat.lt_of_lt_of_le lt_b52 (Keep.of_wr W55).1) (Keep.of_wr W58).1) (Keep.of_wr W61).1) (Nat.le_of_eq g62.symm)))
       have ne72 : ¬ (b52 = b69) := (Nat.ne_of_lt (Nat.lt_of_lt_of_le (Nat.lt_of_lt_of_le (Nat.lt_of_lt_of_le (Nat.lt_of_lt_of_le (Nat.lt_of_lt_of_le (Nat.lt_of_lt_of_le (Nat.lt_of_lt_of_le lt_b52 (Keep.of_wr W55).1) (Keep.of_wr W58).1) (Keep.of_wr W61).1) E62.1) (Keep.of_wr W65).1) (Keep.of_wr W68).1) (Nat.le_of_eq g69.symm)))
       have f73 := (((((V61.ext E62).other W65 ne71).other W68 ne71).ext E69).keep Kc70 (fun q => ne72 (List.mem_singleton.mp q)))
       have f74 := ((((((((Ex52.wr W55).wr W58).wr W61).ext E62).wr W65).wr W68).ext E69).keep Kc70)
       obtain ⟨v75, T75, Lc75, X75, hQ75, st75⟩ := Z6 X70 hx hZ hown (a := b69) (R7a l Z a0 hw [] b69 b52 c52 pr y1 y2 _ _ _ _ _ _ _ _ _ T70.heap n0 O70 hE G70_1 Ex70 f73 f74 nn_pr q_1 (q_2 (I4a hc51)) q_6) (Ba hw 44 rfl) (Ba hw 45 rfl) (Ba hw 47 rfl) (Ba hw 46 rfl) (notFace_of_selects (args := #[]) (mvT hZ (Ba hw 47 rfl))) (Ba hw 16 rfl) (Ba hw 48 rfl) rfl Ex70 (g := (mkF m 473 #[vi p0, vi p1, vi p2, vi p3, vi p4, vi ((p1 &&& (2147483647 : Int32)) % (5 : Int32)), vi pr, vr b11, vr b52, vr b62, vi cp, .unset] [(.ref b69)])) rfl (by rw [hml]; rfl) (argsL := []) (rest := []) rfl (lenOf Dm rfl) rfl (W := 0) (by show 2 * 0 + _ ≤ _; exact Nat.le_of_eq rfl) (hb hby at_473) (by decide) (by decide) (by decide) (by decide) (by decide)
       obtain ⟨s75, b75, k75, rfl, N75q, O75, Kc75, g_s75, gs_s75, g_b75, gs_b75, ne_s_b75, F75_0, F75_1, F75_2, F75_3⟩ := hQ75
       have N75 := Fr.app N70 N75q
       have K75 := K70.trans Kc75 (fun x hx => nomatch hx)
       have s_s75 := Nat.le_trans K70.1 gs_s75
       have s_b75 := Nat.le_trans K70.1 gs_b75
       have lt_s75 := F75_0.lt
       have lt_b75 := F75_3.lt
       obtain ⟨T76, h76, X76, e76, E76, A76, D76, -, st76⟩ := newO X75 hx hZ hown (Ba hw 158 rfl) (Ba hw 30 rfl) (Ba hw 29 rfl) rfl (g := (mkF m 478 #[vi p0, vi p1, vi p2, vi p3, vi p4, vi ((p1 &&& (2147483647 : Int32)) % (5 : Int32)), vi pr, vr b11, vr b52, vr b62, vr s75, .unset] [])) rfl (hb hby at_478) (by decide) (by decide)
       obtain ⟨b76, g76⟩ : ∃ z, z = T75.heap.size := ⟨_, rfl⟩
       rw [← g76] at A76 D76 st76
       have O76 := O75.ext E76
       have g_b76 : n0 ≤ b76 := Nat.le_trans (Nat.le_of_eq O75.1.symm) (Nat.le_trans O75.2.1 (Nat.le_of_eq g76.symm))
       have s_b76 : h0.size ≤ b76 := Nat.le_trans K75.1 (Nat.le_of_eq g76.symm)
       have K76 := K75.ext E76
       have lt_b76 := A76.lt
       have F76_value : Fld Z h76 b76 "java/lang/String" "value" "[B" .null := D76 (Or.inr (Ba hw 31 rfl)) (ty := (.array .byte)) (by decide)
       have F76_coder : Fld Z h76 b76 "java/lang/String" "coder" "B" (.int 0) := D76 (Or.inr (Ba hw 32 rfl)) (ty := .byte) (by decide)
       have ne77 : ¬ (b62 = b76) := (Nat.ne_of_lt (Nat.lt_of_lt_of_le (Nat.lt_of_lt_of_le (Nat.lt_of_lt_of_le (Nat.lt_of_lt_of_le (Nat.lt_of_lt_of_le (Nat.lt_of_lt_of_le lt_b62 (Keep.of_wr W65).1) (Keep.of_wr W68).1) E69.1) Kc70.1) Kc75.1) (Nat.le_of_eq g76.symm)))
       have ne78 : ¬ (b62 = b69) := (Nat.ne_of_lt (Nat.lt_of_lt_of_le (Nat.lt_of_lt_of_le (Nat.lt_of_lt_of_le lt_b62 (Keep.of_wr W65).1) (Keep.of_wr W68).1) (Nat.le_of_eq g69.symm)))
       have f79 := ((((V68.ext E69).keep Kc70 (fun q => ne78 (List.mem_singleton.mp q))).keep Kc75 List.not_mem_nil).ext E76)
       obtain ⟨v80, T80, Lc80, X80, hQ80, st80⟩ := G1 X76 hx hZ hown (a := b76) (W1a l Z a0 hw [] b76 b62 c62 pr cp _ _ _ _ _ _ _ _ _ h76 n0 O76 hE f79 A76 F76_value F76_coder g_b76 ne77 le_pr (H4a (I4a hc51))) (Ba hw 159 rfl) (Ba hw 160 rfl) (Ba hw 29 rfl) (Ba hw 161 rfl) e76 (g := (mkF m 484 #[vi p0, vi p1, vi p2, vi p3, vi p4, vi ((p1 &&& (2147483647 : Int32)) % (5 : Int32)), vi pr, vr b11, vr b52, vr b62, vr s75, .unset] [(.ref b62), (.ref b76), (.ref b76)])) rfl (by rw [hml]; rfl) (argsL := [(.ref b62)]) (rest := [(.ref b76)]) rfl (lenOf Gca rfl) rfl (W := 1) (by show 2 * 0 + _ ≤ _; exact Nat.le_of_eq rfl) (hb hby at_484) (by decide) (by decide) (by decide) (by decide) rfl (by decide)
       obtain ⟨b80, k80, rfl, N80q, O80, Kc80, g_b80, gs_b80, F80_0, F80_1, F80_2, F80_3⟩ := hQ80
       have N80 := Fr.app N75 N80q
       have K80 := K76.trans Kc80 (allS (Or.inr s_b76) all0)
       have s_b80 := Nat.le_trans K76.1 gs_b80
       have lt_b80 := F80_3.lt
       have ne81 : ¬ (b76 = s75) := (Ne.symm (Nat.ne_of_lt (Nat.lt_of_lt_of_le lt_s75 (Nat.le_of_eq g76.symm))))
       have f82 := ((F75_0.ext E76).keep Kc80)
       have f83 := ((F75_1.ext E76).keep Kc80 (fun q => (Ne.symm ne81) (List.mem_singleton.mp q)))
       have f84 := ((F75_2.ext E76).keep Kc80 (fun q => (Ne.symm ne81) (List.mem_singleton.mp q)))
       have ne85 : ¬ (b75 = b76) := (Nat.ne_of_lt (Nat.lt_of_lt_of_le lt_b75 (Nat.le_of_eq g76.symm)))
       have f86 := ((F75_3.ext E76).keep Kc80 (fun q => ne85 (List.mem_singleton.mp q)))
       obtain ⟨v87, T87, Lc87, X87, hQ87, st87⟩ := Z6 X80 hx hZ hown (a := b76) (H5a l Z a0 hw [] b76 s75 b80 b75 k80 k75 (pr.toInt8.toInt32) (cp.toInt8.toInt32) pr (((((y1 <<< ((6 : Int32) &&& 31)) ^^^ y2) ^^^ (3968 : Int32)).toUInt32.toUInt16.toUInt32.toInt32).toInt8.toInt32) _ _ _ _ _ _ _ _ _ T80.heap n0 O80 hE F80_0 F80_1 F80_2 F80_3 f82 f83 f84 f86 ne81 a_pr (by rw [q_d])) (Ba hw 181 rfl) (Ba hw 182 rfl) (Ba hw 184 rfl) (Ba hw 183 rfl) (notFace_of_selects (args := #[]) (mvT hZ (Ba hw 184 rfl))) (Ba hw 29 rfl) (Ba hw 185 rfl) rfl F80_0 (g := (mkF m 489 #[vi p0, vi p1, vi p2, vi p3, vi p4, vi ((p1 &&& (2147483647 : Int32)) % (5 : Int32)), vi pr, vr b11, vr b52, vr b62, vr s75, .unset] [(.ref s75), (.ref b76)])) rfl (by rw [hml]; rfl) (argsL := [(.ref s75)]) (rest := []) rfl (lenOf Dl rfl) rfl (W := 0) (by show 2 * 0 + _ ≤ _; exact Nat.le_of_eq rfl) (hb hby at_489) (by decide) (by decide) (by decide) (by decide) (by decide)
       obtain ⟨rfl, N87q, hp87⟩ := hQ87
       have N87 := Fr.app N80 N87q
       have k88 : Ab p e below m s₁ #[(.int p0), (.int p1), (.int p2), (.int p3), (.int p4)] maxLocals T87 492 #[vi p0, vi p1, vi p2, vi p3, vi p4, vi ((p1 &&& (2147483647 : Int32)) % (5 : Int32)), vi pr, vr b11, vr b52, vr b62, vr s75, .unset] [(.int 1)] := by
        intro t k
        refine k50 t ?_
        refine XS.iconst X11.here hx rfl (hb hby at_88) ?_
        refine st52 _ ?_
        refine XS.dup X52.here hx rfl (hb hby at_91) rfl rfl ?_
        refine XS.iconst X52.here hx rfl (hb hby at_92) ?_
        refine Wa X52 hx hby at_93 rfl ?_
        refine XS.i2b X52.here hx rfl (hb hby at_95) rfl ?_
        show Za p e below m T52 96 #[vi p0, vi p1, vi p2, vi p3, vi p4, vi ((p1 &&& (2147483647 : Int32)) % (5 : Int32)), vi pr, vr b11, .unset, .unset, vi cp, .unset] [(.int (pr.toInt8.toInt32)), (.int 0), (.ref b52), (.ref b52)] t
        rw [a_pr]
        refine st55 _ ?_
        refine XS.dup X55.here hx rfl (hb hby at_97) rfl rfl ?_
        refine XS.iconst X55.here hx rfl (hb hby at_98) ?_
        refine XS.sipush X55.here hx rfl (hb hby at_99) ?_
        refine Wa X55 hx hby at_102 rfl ?_
        refine XS.bipush X55.here hx rfl (hb hby at_104) ?_
        refine XS.ishr X55.here hx rfl (hb hby at_106) rfl ?_
        refine XS.ior X55.here hx rfl (hb hby at_107) rfl ?_
        refine XS.i2b X55.here hx rfl (hb hby at_108) rfl ?_
        show Za p e below m T55 109 #[vi p0, vi p1, vi p2, vi p3, vi p4, vi ((p1 &&& (2147483647 : Int32)) % (5 : Int32)), vi pr, vr b11, .unset, .unset, vi cp, .unset] [(.int (((192 : Int32) ||| (cp >>> ((6 : Int32) &&& 31))).toInt8.toInt32)), (.int 1), (.ref b52), (.ref b52)] t
        rw [← hy1]
        refine st58 _ ?_
        refine XS.dup X58.here hx rfl (hb hby at_110) rfl rfl ?_
        refine XS.iconst X58.here hx rfl (hb hby at_111) ?_
        refine XS.sipush X58.here hx rfl (hb hby at_112) ?_
        refine Wa X58 hx hby at_115 rfl ?_
        refine XS.bipush X58.here hx rfl (hb hby at_117) ?_
        refine XS.iand X58.here hx rfl (hb hby at_119) rfl ?_
        refine XS.ior X58.here hx rfl (hb hby at_120) rfl ?_
        refine XS.i2b X58.here hx rfl (hb hby at_121) rfl ?_
        show Za p e below m T58 122 #[vi p0, vi p1, vi p2, vi p3, vi p4, vi ((p1 &&& (2147483647 : Int32)) % (5 : Int32)), vi pr, vr b11, .unset, .unset, vi cp, .unset] [(.int (((128 : Int32) ||| (cp &&& (63 : Int32))).toInt8.toInt32)), (.int 2), (.ref b52), (.ref b52)] t
        rw [← hy2]
        refine st61 _ ?_
        refine XS.astore X61.here hx rfl (hb hby at_123) rfl rfl (l' := #[vi p0, vi p1, vi p2, vi p3, vi p4, vi ((p1 &&& (2147483647 : Int32)) % (5 : Int32)), vi pr, vr b11, vr b52, .unset, vi cp, .unset]) rfl ?_
        refine XS.iconst X61.here hx rfl (hb hby at_125) ?_
        refine st62 _ ?_
        refine XS.dup X62.here hx rfl (hb hby at_128) rfl rfl ?_
        refine XS.iconst X62.here hx rfl (hb hby at_129) ?_
        refine Wa X62 hx hby at_130 rfl ?_
        refine st65 _ ?_
        refine XS.dup X65.here hx rfl (hb hby at_133) rfl rfl ?_
        refine XS.iconst X65.here hx rfl (hb hby at_134) ?_
        refine Wa X65 hx hby at_135 rfl ?_
        show Za p e below m T65 137 #[vi p0, vi p1, vi p2, vi p3, vi p4, vi ((p1 &&& (2147483647 : Int32)) % (5 : Int32)), vi pr, vr b11, vr b52, .unset, vi cp, .unset] [(.int cp), (.int 1), (.ref b62), (.ref b62)] t
        refine XS.i2c X65.here hx rfl (hb hby at_137) rfl ?_
        show Za p e below m T65 138 #[vi p0, vi p1, vi p2, vi p3, vi p4, vi ((p1 &&& (2147483647 : Int32)) % (5 : Int32)), vi pr, vr b11, vr b52, .unset, vi cp, .unset] [(.int (cp.toUInt32.toUInt16.toUInt32.toInt32)), (.int 1), (.ref b62), (.ref b62)] t
        rw [Pza]
        refine st68 _ ?_
        refine XS.astore X68.here hx rfl (hb hby at_139) rfl rfl (l' := #[vi p0, vi p1, vi p2, vi p3, vi p4, vi ((p1 &&& (2147483647 : Int32)) % (5 : Int32)), vi pr, vr b11, vr b52, vr b62, vi cp, .unset]) rfl ?_
        refine XS.goto X68.here hx rfl (pc0 := 141) (pc' := 462) rfl (hb hby at_141) (by decide) (by decide) ?_
        refine st69 _ ?_
        refine XS.dup X69.here hx rfl (hb hby at_465) rfl rfl ?_
        refine Dd X69 hx hby at_466 rfl rfl ?_
        refine Dd X69 hx hby at_468 rfl rfl ?_
        refine st70.trans ?_
        refine st75 _ ?_
        refine XS.astore X75.here hx rfl (hb hby at_476) rfl rfl (l' := #[vi p0, vi p1, vi p2, vi p3, vi p4, vi ((p1 &&& (2147483647 : Int32)) % (5 : Int32)), vi pr, vr b11, vr b52, vr b62, vr s75, .unset]) rfl ?_
        refine st76 _ ?_
        show Za p e below m T76 481 #[vi p0, vi p1, vi p2, vi p3, vi p4, vi ((p1 &&& (2147483647 : Int32)) % (5 : Int32)), vi pr, vr b11, vr b52, vr b62, vr s75, .unset] [(.ref b76)] t
        refine XS.dup X76.here hx rfl (hb hby at_481) rfl rfl ?_
        refine Dd X76 hx hby at_482 rfl rfl ?_
        refine st80 _ ?_
        refine Dd X80 hx hby at_487 rfl rfl ?_
        refine st87 _ ?_
        exact k
       obtain ⟨fs, hr, hrun, hended, hRW⟩ := X87.leaveW hS (by rw [hp87]; exact (Nat.le_trans (Nat.le_trans (Nat.le_trans (Nat.le_refl _) Kc75.1) E76.1) Kc80.1)) (v := some (.int 1)) (fun h => by rw [Bd.returns] at h; cases h)
       refine hNG ⟨_, _, k88 _ ?_, hrun, hended, _, _, rfl, ?_, hRW.1, hRW.2.1, hRW.2.2.1, hRW.2.2.2.mono (by decide) (by decide)⟩
       · exact retN X87 hx (t := .boolean) Bd.returns (by simp) (hb hby at_492) hr
       · show Lxa Z p0 p1 p2 p3 p4 Ra Ya Ia Ua Ka Ga Ma Da Aa h0 n0 _ T87.heap _
         rw [hp87]
         exact ⟨rfl, N87⟩
     · obtain ⟨T89, h89, c89, X89, e89, E89, A89, Ex89, st89⟩ := newPE X11 hx hZ (Ba hw 10 rfl) rfl (g := (mkF m 89 #[vi p0, vi p1, vi p2, vi p3, vi p4, vi ((p1 &&& (2147483647 : Int32)) % (5 : Int32)), vi pr, vr b11, .unset, .unset, vi cp, .unset] [(.int 3)])) rfl (hb hby at_89) rfl (by decide) (cap := 3) (by decide) (by decide) (by decide) (by decide) (ad := "[B") (by decide)
       obtain ⟨b89, g89⟩ : ∃ z, z = T11.heap.size := ⟨_, rfl⟩
       rw [← g89] at A89 st89 Ex89
       have O89 := O11.ext E89
       have g_b89 : n0 ≤ b89 := Nat.le_trans (Nat.le_of_eq O11.1.symm) (Nat.le_trans O11.2.1 (Nat.le_of_eq g89.symm))
       have s_b89 : h0.size ≤ b89 := Nat.le_trans K11.1 (Nat.le_of_eq g89.symm)
       have K89 := K11.ext E89
       have V89 : Arv Z h89 b89 c89 .byte (3 : Int32) [(.int 0), (.int 0), (.int 0)] (.int 0) := (Arv.new A89 (by decide)).pad (pad_rep [] (.int 0) 3)
       have lt_b89 := V89.lt
       obtain ⟨cl90, Ar90, q90, Sz90, Nn90, Hs90, Gf90⟩ := id V89
       have hin91 := inb_of (j := 0) Sz90 ⟨by decide, by decide⟩
       obtain ⟨T92, h92, X92, e92, W92, st92⟩ := stB X89 hx hZ e89 Ar90 (j := 0) hin91 (g := (mkF m 96 #[vi p0, vi p1, vi p2, vi p3, vi p4, vi ((p1 &&& (2147483647 : Int32)) % (5 : Int32)), vi pr, vr b11, .unset, .unset, vi cp, .unset] [(.int pr), (.int 0), (.ref b89), (.ref b89)])) rfl rfl (hb hby at_96)
       have V92 : Arv Z h92 b89 c89 .byte (3 : Int32) [(.int pr), (.int 0), (.int 0)] (.int 0) := by
         have q := Arv.set Ar90 q90 Sz90 Nn90 Hs90 Gf90 (fits_nar_byte _) W92 0 rfl (Nat.le_of_ble_eq_true rfl)
         first | exact q | (simp only [nb_pr, a_pr] at q; exact q)
       have N92 := Fr.snoc X92 N11 g_b89
       have O92 := O89.wr W92 g_b89
       have K92 := K89.wr W92 (Or.inr s_b89)
       obtain ⟨y1, hy1⟩ : ∃ z, z = (((192 : Int32) ||| (cp >>> ((6 : Int32) &&& 31))).toInt8.toInt32) := ⟨_, rfl⟩
       have nb_y1 : nar .byte y1 = y1 := by rw [hy1]; exact Pd _
       have a_y1 : (y1.toInt8.toInt32) = y1 := nb_y1
       obtain ⟨cl93, Ar93, q93, Sz93, Nn93, Hs93, Gf93⟩ := id V92
       have hin94 := inb_of (j := 1) Sz93 ⟨by decide, by decide⟩
       obtain ⟨T95, h95, X95, e95, W95, st95⟩ := stB X92 hx hZ e92 Ar93 (j := 1) hin94 (g := (mkF m 109 #[vi p0, vi p1, vi p2, vi p3, vi p4, vi ((p1 &&& (2147483647 : Int32)) % (5 : Int32)), vi pr, vr b11, .unset, .unset, vi cp, .unset] [(.int y1), (.int 1), (.ref b89), (.ref b89)])) rfl rfl (hb hby at_109)
       have V95 : Arv Z h95 b89 c89 .byte (3 : Int32) [(.int pr), (.int y1), (.int 0)] (.int 0) := by
         have q := Arv.set Ar93 q93 Sz93 Nn93 Hs93 Gf93 (fits_nar_byte _) W95 1 rfl (Nat.le_of_ble_eq_true rfl)
         first | exact q | (simp only [nb_y1, a_y1] at q; exact q)
       have N95 := Fr.snoc X95 N92 g_b89
       have O95 := O92.wr W95 g_b89
       have K95 := K92.wr W95 (Or.inr s_b89)
       obtain ⟨y2, hy2⟩ : ∃ z, z = (((128 : Int32) ||| (cp &&& (63 : Int32))).toInt8.toInt32) := ⟨_, rfl⟩
       have nb_y2 : nar .byte y2 = y2 := by rw [hy2]; exact Pd _
       have a_y2 : (y2.toInt8.toInt32) = y2 := nb_y2
       obtain ⟨cl96, Ar96, q96, Sz96, Nn96, Hs96, Gf96⟩ := id V95
       have hin97 := inb_of (j := 2) Sz96 ⟨by decide, by decide⟩
       obtain ⟨T98, h98, X98, e98, W98, st98⟩ := stB X95 hx hZ e95 Ar96 (j := 2) hin97 (g := (mkF m 122 #[vi p0, vi p1, vi p2, vi p3, vi p4, vi ((p1 &&& (2147483647 : Int32)) % (5 : Int32)), vi pr, vr b11, .unset, .unset, vi cp, .unset] [(.int y2), (.int 2), (.ref b89), (.ref b89)])) rfl rfl (hb hby at_122)
       have V98 : Arv Z h98 b89 c89 .byte (3 : Int32) [(.int pr), (.int y1), (.int y2)] (.int 0) := by
         have q := Arv.set Ar96 q96 Sz96 Nn96 Hs96 Gf96 (fits_nar_byte _) W98 2 rfl (Nat.le_of_ble_eq_true rfl)
         first | exact q | (simp only [nb_y2, a_y2] at q; exact q)
       have N98 := Fr.snoc X98 N95 g_b89
       have O98 := O95.wr W98 g_b89
       have K98 := K95.wr W98 (Or.inr s_b89)
       obtain ⟨T99, h99, c99, X99, e99, E99, A99, Ex99, st99⟩ := newPE X98 hx hZ (Ba hw 11 rfl) e98 (g := (mkF m 126 #[vi p0, vi p1, vi p2, vi p3, vi p4, vi ((p1 &&& (2147483647 : Int32)) % (5 : Int32)), vi pr, vr b11, vr b89, .unset, vi cp, .unset] [(.int 2)])) rfl (hb hby at_126) rfl (by decide) (cap := 2) (by decide) (by decide) (by decide) (by decide) (ad := "[C") (by decide)
       obtain ⟨b99, g99⟩ : ∃ z, z = h98.size := ⟨_, rfl⟩
       rw [← g99] at A99 st99 Ex99
       have O99 := O98.ext E99
       have g_b99 : n0 ≤ b99 := Nat.le_trans (Nat.le_of_eq O98.1.symm) (Nat.le_trans O98.2.1 (Nat.le_of_eq g99.symm))
       have s_b99 : h0.size ≤ b99 := Nat.le_trans K98.1 (Nat.le_of_eq g99.symm)
       have K99 := K98.ext E99
       have V99 : Arv Z h99 b99 c99 .char (2 : Int32) [(.int 0), (.int 0)] (.int 0) := (Arv.new A99 (by decide)).pad (pad_rep [] (.int 0) 2)
       have lt_b99 := V99.lt
       obtain ⟨cl100, Ar100, q100, Sz100, Nn100, Hs100, Gf100⟩ := id V99
       have hin101 := inb_of (j := 0) Sz100 ⟨by decide, by decide⟩
       obtain ⟨T102, h102, X102, e102, W102, st102⟩ := stC X99 hx hZ e99 Ar100 (j := 0) hin101 (g := (mkF m 132 #[vi p0, vi p1, vi p2, vi p3, vi p4, vi ((p1 &&& (2147483647 : Int32)) % (5 : Int32)), vi pr, vr b11, vr b89, .unset, vi cp, .unset] [(.int pr), (.int 0), (.ref b99), (.ref b99)])) rfl rfl (hb hby at_132)
       have V102 : Arv Z h102 b99 c99 .char (2 : Int32) [(.int pr), (.int 0)] (.int 0) := by
         have q := Arv.set Ar100 q100 Sz100 Nn100 Hs100 Gf100 (fits_nar_char _) W102 0 rfl (Nat.le_of_ble_eq_true rfl)
         first | exact q | (simp only [nc_pr] at q; exact q)
       have N102 := Fr.snoc X102 N98 g_b99
       have O102 := O99.wr W102 g_b99
       have K102 := K99.wr W102 (Or.inr s_b99)
       obtain ⟨cl103, Ar103, q103, Sz103, Nn103, Hs103, Gf103⟩ := id V102
       have hin104 := inb_of (j := 1) Sz103 ⟨by decide, by decide⟩
       obtain ⟨T105, h105, X105, e105, W105, st105⟩ := stC X102 hx hZ e102 Ar103 (j := 1) hin104 (g := (mkF m 138 #[vi p0, vi p1, vi p2, vi p3, vi p4, vi ((p1 &&& (2147483647 : Int32)) % (5 : Int32)), vi pr, vr b11, vr b89, .unset, vi cp, .unset] [(.int cp), (.int 1), (.ref b99), (.ref b99)])) rfl rfl (hb hby at_138)
       have V105 : Arv Z h105 b99 c99 .char (2 : Int32) [(.int pr), (.int cp)] (.int 0) := by
         have q := Arv.set Ar103 q103 Sz103 Nn103 Hs103 Gf103 (fits_nar_char _) W105 1 rfl (Nat.le_of_ble_eq_true rfl)
         first | exact q | (simp only [nc_cp] at q; exact q)
       have N105 := Fr.snoc X105 N102 g_b99
       have O105 := O102.wr W105 g_b99
       have K105 := K102.wr W105 (Or.inr s_b99)
       obtain ⟨T106, h106, X106, e106, E106, A106, D106, -, st106⟩ := newO X105 hx hZ hown (Ba hw 14 rfl) (Ba hw 15 rfl) (Ba hw 16 rfl) e105 (g := (mkF m 462 #[vi p0, vi p1, vi p2, vi p3, vi p4, vi ((p1 &&& (2147483647 : Int32)) % (5 : Int32)), vi pr, vr b11, vr b89, vr b99, vi cp, .unset] [])) rfl (hb hby at_462) (by decide) (by decide)
       obtain ⟨b106, g106⟩ : ∃ z, z = h105.size := ⟨_, rfl⟩
       rw [← g106] at A106 D106 st106
       have O106 := O105.ext E106
       have g_b106 : n0 ≤ b106 := Nat.le_trans (Nat.le_of_eq O105.1.symm) (Nat.le_trans O105.2.1 (Nat.le_of_eq g106.symm))
       have s_b106 : h0.size ≤ b106 := Nat.le_trans K105.1 (Nat.le_of_eq g106.symm)
       have K106 := K105.ext E106
       have lt_b106 := A106.lt
       have F106_status : Fld Z h106 b106 "com/example/attenuation/attenuation/core/Outcome" "status" "Lcom/example/attenuation/attenuation/core/Outcome$Status;" .null := D106 (Or.inr (Ba hw 41 rfl)) (ty := (.object "com/example/attenuation/attenuation/core/Outcome$Status")) (by decide)
       have F106_body : Fld Z h106 b106 "com/example/attenuation/attenuation/core/Outcome" "body" "[B" .null := D106 (Or.inr (Ba hw 43 rfl)) (ty := (.array .byte)) (by decide)
       obtain ⟨_, _, ⟨T107, L107, k107, n107⟩, -, X107, hS107, hg107, ⟨Lc107, hQ107, l107, y107, z107⟩, st107⟩ := X106.specialBackS hx (y := Rba) rfl hown (mvT hZ (Ba hw 17 rfl)) (mvT hZ (Ba hw 18 rfl)) (mvT hZ (Ba hw 19 rfl)) (by decide) (backOfS (W := 1) (Zwa l Z a0 hw [] b106 b11 b89 _ _ _ _ _ _ _ _ _ h106 n0 O106 hE F106_status F106_body A106 g_b106 ) hZ (Ba hw 19 rfl) (Ba hw 16 rfl) (by decide) (by decide)) (g := (mkF m 470 #[vi p0, vi p1, vi p2, vi p3, vi p4, vi ((p1 &&& (2147483647 : Int32)) % (5 : Int32)), vi pr, vr b11, vr b89, vr b99, vi cp, .unset] [(.ref b89), (.ref b11), (.ref b106), (.ref b106)])) rfl (by rw [hml]; rfl) (Steps.refl _) (a := b106) (argsL := [(.ref b11), (.ref b89)]) (rest := [(.ref b106)]) (lenOf Uc rfl) rfl (by show 2 * 0 + _ ≤ _; exact Nat.le_of_eq rfl) (hb hby at_470) (fun _ _ => ⟨rfl, e106, (by decide : 3 + 4 ≤ _), (by decide : 7 + 48 ≤ _)⟩)
       dsimp only [Pt.U, Pt.locs, Pt.cells, Pt.slots] at X107 l107 y107 z107 st107 hQ107 hS107 hg107
       subst l107 y107 z107
       obtain ⟨X107, hS, hZ, hown⟩ := rebS hS (by rw [e106]; exact (Nat.le_trans (Nat.le_trans (Nat.le_trans (Nat.le_trans (Nat.le_trans (Nat.le_trans (Nat.le_trans (Nat.le_trans (Nat.le_trans (Nat.zero_le _) Kc11.1) E89.1) (Keep.of_wr W92).1) (Keep.of_wr W95).1) (Keep.of_wr W98).1) E99.1) (Keep.of_wr W102).1) (Keep.of_wr W105).1) E106.1)) X107 hS107 hg107 hZ hown
       obtain ⟨rfl, N107q, O107, Kc107, Ex107, G107_0, G107_1⟩ := hQ107
       have N107 := Fr.app N105 N107q
       have K107 := K106.trans Kc107 (allS (Or.inr s_b106) all0)
       obtain ⟨q_1, q_2, q_3, q_4, q_5, q_6, q_7, q_d⟩ := L5a hy1 hy2 r_cp
       have ne108 : ¬ (b89 = b99) := (Nat.ne_of_lt (Nat.lt_of_lt_of_le (Nat.lt_of_lt_of_le (Nat.lt_of_lt_of_le (Nat.lt_of_lt_of_le lt_b89 (Keep.of_wr W92).1) (Keep.of_wr W95).1) (Keep.of_wr W98).1) (Nat.le_of_eq g99.symm)))
       have ne109 : ¬ (b89 = b106) := (Nat.ne_of_lt (Nat.lt_of_lt_of_le (Nat.lt_of_lt_of_le (Nat.lt_of_lt_of_le (Nat.lt_of_lt_of_le (Nat.lt_of_lt_of_le (Nat.lt_of_lt_of_le (Nat.lt_of_lt_of_le lt_b89 (Keep.of_wr W92).1) (Keep.of_wr W95).1) (Keep.of_wr W98).1) E99.1) (Keep.of_wr W102).1) (Keep.of_wr W105).1) (Nat.le_of_eq g106.symm)))
       have f110 := (((((V98.ext E99).other W102 ne108).other W105 ne108).ext E106).keep Kc107 (fun q => ne109 (List.mem_singleton.mp q)))
       have f111 := ((((((((Ex89.wr W92).wr W95).wr W98).ext E99).wr W102).wr W105).ext E106).keep Kc107)
       obtain ⟨v112, T112, Lc112, X112, hQ112, st112⟩ := Z6 X107 hx hZ hown (a := b106) (W7a l Z a0 hw [] b106 b89 c89 pr y1 y2 _ _ _ _ _ _ _ _ _ T107.heap n0 O107 hE G107_1 Ex107 f110 f111 nn_pr q_1 (q_3 (K4a hc51)) q_4 q_5 q_7) (Ba hw 44 rfl) (Ba hw 45 rfl) (Ba hw 47 rfl) (Ba hw 46 rfl) (notFace_of_selects (args := #[]) (mvT hZ (Ba hw 47 rfl))) (Ba hw 16 rfl) (Ba hw 48 rfl) rfl Ex107 (g := (mkF m 473 #[vi p0, vi p1, vi p2, vi p3, vi p4, vi ((p1 &&& (2147483647 : Int32)) % (5 : Int32)), vi pr, vr b11, vr b89, vr b99, vi cp, .unset] [(.ref b106)])) rfl (by rw [hml]; rfl) (argsL := []) (rest := []) rfl (lenOf Dm rfl) rfl (W := 0) (by show 2 * 0 + _ ≤ _; exact Nat.le_of_eq rfl) (hb hby at_473) (by decide) (by decide) (by decide) (by decide) (by decide)
       obtain ⟨s112, b112, k112, rfl, N112q, O112, Kc112, g_s112, gs_s112, g_b112, gs_b112, ne_s_b112, F112_0, F112_1, F112_2, F112_3⟩ := hQ112
       have N112 := Fr.app N107 N112q
       have K112 := K107.trans Kc112 (fun x hx => nomatch hx)
       have s_s112 := Nat.le_trans K107.1 gs_s112
       have s_b112 := Nat.le_trans K107.1 gs_b112
       have lt_s112 := F112_0.lt
       have lt_b112 := F112_3.lt
       obtain ⟨T113, h113, X113, e113, E113, A113, D113, -, st113⟩ := newO X112 hx hZ hown (Ba hw 158 rfl) (Ba hw 30 rfl) (Ba hw 29 rfl) rfl (g := (mkF m 478 #[vi p0, vi p1, vi p2, vi p3, vi p4, vi ((p1 &&& (2147483647 : Int32)) % (5 : Int32)), vi pr, vr b11, vr b89, vr b99, vr s112, .unset] [])) rfl (hb hby at_478) (by decide) (by decide)
       obtain ⟨b113, g113⟩ : ∃ z, z = T112.heap.size := ⟨_, rfl⟩
       rw [← g113] at A113 D113 st113
       have O113 := O112.ext E113
       have g_b113 : n0 ≤ b113 := Nat.le_trans (Nat.le_of_eq O112.1.symm) (Nat.le_trans O112.2.1 (Nat.le_of_eq g113.symm))
       have s_b113 : h0.size ≤ b113 := Nat.le_trans K112.1 (Nat.le_of_eq g113.symm)
       have K113 := K112.ext E113
       have lt_b113 := A113.lt
       have F113_value : Fld Z h113 b113 "java/lang/String" "value" "[B" .null := D113 (Or.inr (Ba hw 31 rfl)) (ty := (.array .byte)) (by decide)
       have F113_coder : Fld Z h113 b113 "java/lang/String" "coder" "B" (.int 0) := D113 (Or.inr (Ba hw 32 rfl)) (ty := .byte) (by decide)
       have ne114 : ¬ (b99 = b113) := (Nat.ne_of_lt (Nat.lt_of_lt_of_le (Nat.lt_of_lt_of_le (Nat.lt_of_lt_of_le (Nat.lt_of_lt_of_le (Nat.lt_of_lt_of_le (Nat.lt_of_lt_of_le lt_b99 (Keep.of_wr W102).1) (Keep.of_wr W105).1) E106.1) Kc107.1) Kc112.1) (Nat.le_of_eq g113.symm)))
       have ne115 : ¬ (b99 = b106) := (Nat.ne_of_lt (Nat.lt_of_lt_of_le (Nat.lt_of_lt_of_le (Nat.lt_of_lt_of_le lt_b99 (Keep.of_wr W102).1) (Keep.of_wr W105).1) (Nat.le_of_eq g106.symm)))
       have f116 := ((((V105.ext E106).keep Kc107 (fun q => ne115 (List.mem_singleton.mp q))).keep Kc112 List.not_mem_nil).ext E113)
       obtain ⟨v117, T117, Lc117, X117, hQ117, st117⟩ := G1 X113 hx hZ hown (a := b113) (Y1a l Z a0 hw [] b113 b99 c99 pr cp _ _ _ _ _ _ _ _ _ h113 n0 O113 hE f116 A113 F113_value F113_coder g_b113 ne114 le_pr (G1a (K4a hc51)) nn_pr hh_pr lh_cp.1 lh_cp.2) (Ba hw 159 rfl) (Ba hw 160 rfl) (Ba hw 29 rfl) (Ba hw 161 rfl) e113 (g := (mkF m 484 #[vi p0, vi p1, vi p2, vi p3, vi p4, vi ((p1 &&& (2147483647 : Int32)) % (5 : Int32)), vi pr, vr b11, vr b89, vr b99, vr s112, .unset] [(.ref b99), (.ref b113), (.ref b113)])) rfl (by rw [hml]; rfl) (argsL := [(.ref b99)]) (rest := [(.ref b113)]) rfl (lenOf Gca rfl) rfl (W := 1) (by show 2 * 0 + _ ≤ _; exact Nat.le_of_eq rfl) (hb hby at_484) (by decide) (by decide) (by decide) (by decide) rfl (by decide)
       obtain ⟨b117, k117, rfl, N117q, O117, Kc117, g_b117, gs_b117, F117_0, F117_1, F117_2, F117_3⟩ := hQ117
       have N117 := Fr.app N112 N117q
       have K117 := K113.trans Kc117 (allS (Or.inr s_b113) all0)
       have s_b117 := Nat.le_trans K113.1 gs_b117
       have lt_b117 := F117_3.lt
       have ne118 : ¬ (b113 = s112) := (Ne.symm (Nat.ne_of_lt (Nat.lt_of_lt_of_le lt_s112 (Nat.le_of_eq g113.symm))))
       have f119 := ((F112_0.ext E113).keep Kc117)
       have f120 := ((F112_1.ext E113).keep Kc117 (fun q => (Ne.symm ne118) (List.mem_singleton.mp q)))
       have f121 := ((F112_2.ext E113).keep Kc117 (fun q => (Ne.symm ne118) (List.mem_singleton.mp q)))
       have ne122 : ¬ (b112 = b113) := (Nat.ne_of_lt (Nat.lt_of_lt_of_le lt_b112 (Nat.le_of_eq g113.symm)))
       have f123 := ((F112_3.ext E113).keep Kc117 (fun q => ne122 (List.mem_singleton.mp q)))
       obtain ⟨v124, T124, Lc124, X124, hQ124, st124⟩ := Z6 X117 hx hZ hown (a := b113) (I5a l Z a0 hw [] b113 s112 b117 b112 k117 k112 ((pr >>> ((0 : Int32) &&& 31)).toInt8.toInt32) ((pr >>> ((8 : Int32) &&& 31)).toInt8.toInt32) ((cp >>> ((0 : Int32) &&& 31)).toInt8.toInt32) ((cp >>> ((8 : Int32) &&& 31)).toInt8.toInt32) (((pr &&& (255 : Int32)) >>> ((0 : Int32) &&& 31)).toInt8.toInt32) (((pr &&& (255 : Int32)) >>> ((8 : Int32) &&& 31)).toInt8.toInt32) ((((((y1 <<< ((6 : Int32) &&& 31)) ^^^ y2) ^^^ (3968 : Int32)).toUInt32.toUInt16.toUInt32.toInt32) >>> ((0 : Int32) &&& 31)).toInt8.toInt32) ((((((y1 <<< ((6 : Int32) &&& 31)) ^^^ y2) ^^^ (3968 : Int32)).toUInt32.toUInt16.toUInt32.toInt32) >>> ((8 : Int32) &&& 31)).toInt8.toInt32) _ _ _ _ _ _ _ _ _ T117.heap n0 O117 hE F117_0 F117_1 F117_2 F117_3 f119 f120 f121 f123 ne118 (by rw [pp_pr]) (by rw [pp_pr]) (by rw [q_d]) (by rw [q_d])) (Ba hw 181 rfl) (Ba hw 182 rfl) (Ba hw 184 rfl) (Ba hw 183 rfl) (notFace_of_selects (args := #[]) (mvT hZ (Ba hw 184 rfl))) (Ba hw 29 rfl) (Ba hw 185 rfl) rfl F117_0 (g := (mkF m 489 #[vi p0, vi p1, vi p2, vi p3, vi p4, vi ((p1 &&& (2147483647 : Int32)) % (5 : Int32)), vi pr, vr b11, vr b89, vr b99, vr s112, .unset] [(.ref s112), (.ref b113)])) rfl (by rw [hml]; rfl) (argsL := [(.ref s112)]) (rest := []) rfl (lenOf Dl rfl) rfl (W := 0) (by show 2 * 0 + _ ≤ _; exact Nat.le_of_eq rfl) (hb hby at_489) (by decide) (by decide) (by decide) (by decide) (by decide)
       obtain ⟨rfl, N124q, hp124⟩ := hQ124
       have N124 := Fr.app N117 N124q
       have k125 : Ab p e below m s₁ #[(.int p0), (.int p1), (.int p2), (.int p3), (.int p4)] maxLocals T124 492 #[vi p0, vi p1, vi p2, vi p3, vi p4, vi ((p1 &&& (2147483647 : Int32)) % (5 : Int32)), vi pr, vr b11, vr b89, vr b99, vr s112, .unset] [(.int 1)] := by
        intro t k
        refine k50 t ?_
        refine XS.iconst X11.here hx rfl (hb hby at_88) ?_
        refine st89 _ ?_
        refine XS.dup X89.here hx rfl (hb hby at_91) rfl rfl ?_
        refine XS.iconst X89.here hx rfl (hb hby at_92) ?_
        refine Wa X89 hx hby at_93 rfl ?_
        refine XS.i2b X89.here hx rfl (hb hby at_95) rfl ?_
        show Za p e below m T89 96 #[vi p0, vi p1, vi p2, vi p3, vi p4, vi ((p1 &&& (2147483647 : Int32)) % (5 : Int32)), vi pr, vr b11, .unset, .unset, vi cp, .unset] [(.int (pr.toInt8.toInt32)), (.int 0), (.ref b89), (.ref b89)] t
        rw [a_pr]
        refine st92 _ ?_
        refine XS.dup X92.here hx rfl (hb hby at_97) rfl rfl ?_
        refine XS.iconst X92.here hx rfl (hb hby at_98) ?_
        refine XS.sipush X92.here hx rfl (hb hby at_99) ?_
        refine Wa X92 hx hby at_102 rfl ?_
        refine XS.bipush X92.here hx rfl (hb hby at_104) ?_
        refine XS.ishr X92.here hx rfl (hb hby at_106) rfl ?_
        refine XS.ior X92.here hx rfl (hb hby at_107) rfl ?_
        refine XS.i2b X92.here hx rfl (hb hby at_108) rfl ?_
        show Za p e below m T92 109 #[vi p0, vi p1, vi p2, vi p3, vi p4, vi ((p1 &&& (2147483647 : Int32)) % (5 : Int32)), vi pr, vr b11, .unset, .unset, vi cp, .unset] [(.int (((192 : Int32) ||| (cp >>> ((6 : Int32) &&& 31))).toInt8.toInt32)), (.int 1), (.ref b89), (.ref b89)] t
        rw [← hy1]
        refine st95 _ ?_
        refine XS.dup X95.here hx rfl (hb hby at_110) rfl rfl ?_
        refine XS.iconst X95.here hx rfl (hb hby at_111) ?_
        refine XS.sipush X95.here hx rfl (hb hby at_112) ?_
        refine Wa X95 hx hby at_115 rfl ?_
        refine XS.bipush X95.here hx rfl (hb hby at_117) ?_
        refine XS.iand X95.here hx rfl (hb hby at_119) rfl ?_
        refine XS.ior X95.here hx rfl (hb hby at_120) rfl ?_
        refine XS.i2b X95.here hx rfl (hb hby at_121) rfl ?_
        show Za p e below m T95 122 #[vi p0, vi p1, vi p2, vi p3, vi p4, vi ((p1 &&& (2147483647 : Int32)) % (5 : Int32)), vi pr, vr b11, .unset, .unset, vi cp, .unset] [(.int (((128 : Int32) ||| (cp &&& (63 : Int32))).toInt8.toInt32)), (.int 2), (.ref b89), (.ref b89)] t
        rw [← hy2]
        refine st98 _ ?_
        refine XS.astore X98.here hx rfl (hb hby at_123) rfl rfl (l' := #[vi p0, vi p1, vi p2, vi p3, vi p4, vi ((p1 &&& (2147483647 : Int32)) % (5 : Int32)), vi pr, vr b11, vr b89, .unset, vi cp, .unset]) rfl ?_
        refine XS.iconst X98.here hx rfl (hb hby at_125) ?_
        refine st99 _ ?_
        refine XS.dup X99.here hx rfl (hb hby at_128) rfl rfl ?_
        refine XS.iconst X99.here hx rfl (hb hby at_129) ?_
        refine Wa X99 hx hby at_130 rfl ?_
        refine st102 _ ?_
        refine XS.dup X102.here hx rfl (hb hby at_133) rfl rfl ?_
        refine XS.iconst X102.here hx rfl (hb hby at_134) ?_
        refine Wa X102 hx hby at_135 rfl ?_
        show Za p e below m T102 137 #[vi p0, vi p1, vi p2, vi p3, vi p4, vi ((p1 &&& (2147483647 : Int32)) % (5 : Int32)), vi pr, vr b11, vr b89, .unset, vi cp, .unset] [(.int cp), (.int 1), (.ref b99), (.ref b99)] t
        refine XS.i2c X102.here hx rfl (hb hby at_137) rfl ?_
        show Za p e below m T102 138 #[vi p0, vi p1, vi p2, vi p3, vi p4, vi ((p1 &&& (2147483647 : Int32)) % (5 : Int32)), vi pr, vr b11, vr b89, .unset, vi cp, .unset] [(.int (cp.toUInt32.toUInt16.toUInt32.toInt32)), (.int 1), (.ref b99), (.ref b99)] t
        rw [Pza]
        refine st105 _ ?_
        refine XS.astore X105.here hx rfl (hb hby at_139) rfl rfl (l' := #[vi p0, vi p1, vi p2, vi p3, vi p4, vi ((p1 &&& (2147483647 : Int32)) % (5 : Int32)), vi pr, vr b11, vr b89, vr b99, vi cp, .unset]) rfl ?_
        refine XS.goto X105.here hx rfl (pc0 := 141) (pc' := 462) rfl (hb hby at_141) (by decide) (by decide) ?_
        refine st106 _ ?_
        refine XS.dup X106.here hx rfl (hb hby at_465) rfl rfl ?_
        refine Dd X106 hx hby at_466 rfl rfl ?_
        refine Dd X106 hx hby at_468 rfl rfl ?_
        refine st107.trans ?_
        refine st112 _ ?_
        refine XS.astore X112.here hx rfl (hb hby at_476) rfl rfl (l' := #[vi p0, vi p1, vi p2, vi p3, vi p4, vi ((p1 &&& (2147483647 : Int32)) % (5 : Int32)), vi pr, vr b11, vr b89, vr b99, vr s112, .unset]) rfl ?_
        refine st113 _ ?_
        show Za p e below m T113 481 #[vi p0, vi p1, vi p2, vi p3, vi p4, vi ((p1 &&& (2147483647 : Int32)) % (5 : Int32)), vi pr, vr b11, vr b89, vr b99, vr s112, .unset] [(.ref b113)] t
        refine XS.dup X113.here hx rfl (hb hby at_481) rfl rfl ?_
        refine Dd X113 hx hby at_482 rfl rfl ?_
        refine st117 _ ?_
        refine Dd X117 hx hby at_487 rfl rfl ?_
        refine st124 _ ?_
        exact k
       obtain ⟨fs, hr, hrun, hended, hRW⟩ := X124.leaveW hS (by rw [hp124]; exact (Nat.le_trans (Nat.le_trans (Nat.le_trans (Nat.le_refl _) Kc112.1) E113.1) Kc117.1)) (v := some (.int 1)) (fun h => by rw [Bd.returns] at h; cases h)
       refine hNG ⟨_, _, k125 _ ?_, hrun, hended, _, _, rfl, ?_, hRW.1, hRW.2.1, hRW.2.2.1, hRW.2.2.2.mono (by decide) (by decide)⟩
       · exact retN X124 hx (t := .boolean) Bd.returns (by simp) (hb hby at_492) hr
       · show Lxa Z p0 p1 p2 p3 p4 Ra Ya Ia Ua Ka Ga Ma Da Aa h0 n0 _ T124.heap _
         rw [hp124]
         exact ⟨rfl, N124⟩
   · have k126 : Ab p e below m s₁ #[(.int p0), (.int p1), (.int p2), (.int p3), (.int p4)] maxLocals T11 147 #[vi p0, vi p1, vi p2, vi p3, vi p4, vi ((p1 &&& (2147483647 : Int32)) % (5 : Int32)), vi pr, vr b11, .unset, .unset, .unset, .unset] [(.int 2), (.int ((p1 &&& (2147483647 : Int32)) % (5 : Int32)))] := by
      intro t k
      refine k48 t ?_
      refine XS.icmpYes X11.here hx rfl (pc0 := 71) (pc' := 144) rfl (hb hby at_71) rfl (feq hc49).2 (by decide) (by decide) ?_
      refine Wa X11 hx hby at_144 rfl ?_
      refine XS.iconst X11.here hx rfl (hb hby at_146) ?_
      exact k
     by_cases hc127 : ((p1 &&& (2147483647 : Int32)) % (5 : Int32)) = (2 : Int32)
     · obtain ⟨cq, hcq⟩ : ∃ z, z = ((2048 : Int32) + ((p0 &&& (2147483647 : Int32)) % (61440 : Int32))) := ⟨_, rfl⟩
       have r_cq := own_c2 hcq
       have k128 : Ab p e below m s₁ #[(.int p0), (.int p1), (.int p2), (.int p3), (.int p4)] maxLocals T11 163 #[vi p0, vi p1, vi p2, vi p3, vi p4, vi ((p1 &&& (2147483647 : Int32)) % (5 : Int32)), vi pr, vr b11, .unset, .unset, vi cq, .unset] [] := by
        intro t k
        refine k126 t ?_
        refine XS.icmpNo X11.here hx rfl (hb hby at_147) rfl (teq hc127).2 ?_
        refine XS.sipush X11.here hx rfl (hb hby at_150) ?_
        refine Pa X11 hx hby at_153 rfl ?_
        refine X11.ldcI hx hown (mvT hZ (Ba hw 0 rfl)) rfl (hb hby at_154) ?_
        refine XS.iand X11.here hx rfl (hb hby at_156) rfl ?_
        refine X11.ldcI hx hown (mvT hZ (Ba hw 206 rfl)) rfl (hb hby at_157) ?_
        refine iremM X11 hx rfl (hb hby at_159) rfl (by decide) ?_
        refine XS.iadd X11.here hx rfl (hb hby at_160) rfl ?_
        show Za p e below m T11 161 #[vi p0, vi p1, vi p2, vi p3, vi p4, vi ((p1 &&& (2147483647 : Int32)) % (5 : Int32)), vi pr, vr b11, .unset, .unset, .unset, .unset] [(.int ((2048 : Int32) + ((p0 &&& (2147483647 : Int32)) % (61440 : Int32))))] t
        rw [← hcq]
        refine XS.istore X11.here hx rfl (hb hby at_161) rfl (l' := #[vi p0, vi p1, vi p2, vi p3, vi p4, vi ((p1 &&& (2147483647 : Int32)) % (5 : Int32)), vi pr, vr b11, .unset, .unset, vi cq, .unset]) rfl ?_
        exact k
       have J129 : ∀ (vm129 : Vm) (kk129 : Nat) (T129 : State) (locs129 : List Loc) (h129 : Heap) (cp : Int32) (hS : s.Since vm129 kk129) (hk129 : kk129 ≤ h129.size) (hZ : Z.Warmed39 (s.setVm vm129).vm) (hown : (s.setVm vm129).vm.findClass "com/example/attenuation/attenuation/core/OutcomeTextPinLaw" = some m.cls) (X129 : Stand p l e room_1 (s.setVm vm129) m #[(.int p0), (.int p1), (.int p2), (.int p3), (.int p4)] below meth c T129 locs129 0 0) (e129 : T129.heap = h129) (N129 : Fr n0 locs129) (O129 : Old Z n0 h129) (K129 : Keep h0 h129 []) (r_cp : (2048 ≤ cp.toInt ∧ cp.toInt < 55296) ∨ (57344 ≤ cp.toInt ∧ cp.toInt < 65536)) (k129 : ∀ t, Za p e below m T129 178 #[vi p0, vi p1, vi p2, vi p3, vi p4, vi ((p1 &&& (2147483647 : Int32)) % (5 : Int32)), vi pr, vr b11, .unset, .unset, vi cp, .unset] [] t → L1a p e below m s₁ #[(.int p0), (.int p1), (.int p2), (.int p3), (.int p4)] maxLocals t), False := by
         intro vm129 kk129 T129 locs129 h129 cp hS hk129 hZ hown X129 e129 N129 O129 K129 r_cp k129
         have Pza := D1a (x := cp) (by omega)
         have nc_cp : nar .char cp = cp := Pza
         have lh_cp := Dwa (x := cp) (by omega)
         obtain ⟨T130, h130, c130, X130, e130, E130, A130, Ex130, st130⟩ := newPE X129 hx hZ (Ba hw 10 rfl) e129 (g := (mkF m 179 #[vi p0, vi p1, vi p2, vi p3, vi p4, vi ((p1 &&& (2147483647 : Int32)) % (5 : Int32)), vi pr, vr b11, .unset, .unset, vi cp, .unset] [(.int 4)])) rfl (hb hby at_179) rfl (by decide) (cap := 4) (by decide) (by decide) (by decide) (by decide) (ad := "[B") (by decide)
         obtain ⟨b130, g130⟩ : ∃ z, z = h129.size := ⟨_, rfl⟩
         rw [← g130] at A130 st130 Ex130
         have O130 := O129.ext E130
         have g_b130 : n0 ≤ b130 := Nat.le_trans (Nat.le_of_eq O129.1.symm) (Nat.le_trans O129.2.1 (Nat.le_of_eq g130.symm))
         have s_b130 : h0.size ≤ b130 := Nat.le_trans K129.1 (Nat.le_of_eq g130.symm)
         have K130 := K129.ext E130
         have V130 : Arv Z h130 b130 c130 .byte (4 : Int32) [(.int 0), (.int 0), (.int 0), (.int 0)] (.int 0) := (Arv.new A130 (by decide)).pad (pad_rep [] (.int 0) 4)
         have lt_b130 := V130.lt
         obtain ⟨cl131, Ar131, q131, Sz131, Nn131, Hs131, Gf131⟩ := id V130
         have hin132 := inb_of (j := 0) Sz131 ⟨by decide, by decide⟩
         obtain ⟨T133, h133, X133, e133, W133, st133⟩ := stB X130 hx hZ e130 Ar131 (j := 0) hin132 (g := (mkF m 186 #[vi p0, vi p1, vi p2, vi p3, vi p4, vi ((p1 &&& (2147483647 : Int32)) % (5 : Int32)), vi pr, vr b11, .unset, .unset, vi cp, .unset] [(.int pr), (.int 0), (.ref b130), (.ref b130)])) rfl rfl (hb hby at_186)
         have V133 : Arv Z h133 b130 c130 .byte (4 : Int32) [(.int pr), (.int 0), (.int 0), (.int 0)] (.int 0) := by
           have q := Arv.set Ar131 q131 Sz131 Nn131 Hs131 Gf131 (fits_nar_byte _) W133 0 rfl (Nat.le_of_ble_eq_true rfl)
           first | exact q | (simp only [nb_pr, a_pr] at q; exact q)
         have N133 := Fr.snoc X133 N129 g_b130
         have O133 := O130.wr W133 g_b130
         have K133 := K130.wr W133 (Or.inr s_b130)
         obtain ⟨y1, hy1⟩ : ∃ z, z = (((224 : Int32) ||| (cp >>> ((12 : Int32) &&& 31))).toInt8.toInt32) := ⟨_, rfl⟩
         have nb_y1 : nar .byte y1 = y1 := by rw [hy1]; exact Pd _
         have a_y1 : (y1.toInt8.toInt32) = y1 := nb_y1
         obtain ⟨cl134, Ar134, q134, Sz134, Nn134, Hs134, Gf134⟩ := id V133
         have hin135 := inb_of (j := 1) Sz134 ⟨by decide, by decide⟩
         obtain ⟨T136, h136, X136, e136, W136, st136⟩ := stB X133 hx hZ e133 Ar134 (j := 1) hin135 (g := (mkF m 199 #[vi p0, vi p1, vi p2, vi p3, vi p4, vi ((p1 &&& (2147483647 : Int32)) % (5 : Int32)), vi pr, vr b11, .unset, .unset, vi cp, .unset] [(.int y1), (.int 1), (.ref b130), (.ref b130)])) rfl rfl (hb hby at_199)
         have V136 : Arv Z h136 b130 c130 .byte (4 : Int32) [(.int pr), (.int y1), (.int 0), (.int 0)] (.int 0) := by
           have q := Arv.set Ar134 q134 Sz134 Nn134 Hs134 Gf134 (fits_nar_byte _) W136 1 rfl (Nat.le_of_ble_eq_true rfl)
           first | exact q | (simp only [nb_y1, a_y1] at q; exact q)
         have N136 := Fr.snoc X136 N133 g_b130
         have O136 := O133.wr W136 g_b130
         have K136 := K133.wr W136 (Or.inr s_b130)
         obtain ⟨y2, hy2⟩ : ∃ z, z = (((128 : Int32) ||| ((cp >>> ((6 : Int32) &&& 31)) &&& (63 : Int32))).toInt8.toInt32) := ⟨_, rfl⟩
         have nb_y2 : nar .byte y2 = y2 := by rw [hy2]; exact Pd _
         have a_y2 : (y2.toInt8.toInt32) = y2 := nb_y2
         obtain ⟨cl137, Ar137, q137, Sz137, Nn137, Hs137, Gf137⟩ := id V136
         have hin138 := inb_of (j := 2) Sz137 ⟨by decide, by decide⟩
         obtain ⟨T139, h139, X139, e139, W139, st139⟩ := stB X136 hx hZ e136 Ar137 (j := 2) hin138 (g := (mkF m 215 #[vi p0, vi p1, vi p2, vi p3, vi p4, vi ((p1 &&& (2147483647 : Int32)) % (5 : Int32)), vi pr, vr b11, .unset, .unset, vi cp, .unset] [(.int y2), (.int 2), (.ref b130), (.ref b130)])) rfl rfl (hb hby at_215)
         have V139 : Arv Z h139 b130 c130 .byte (4 : Int32) [(.int pr), (.int y1), (.int y2), (.int 0)] (.int 0) := by
           have q := Arv.set Ar137 q137 Sz137 Nn137 Hs137 Gf137 (fits_nar_byte _) W139 2 rfl (Nat.le_of_ble_eq_true rfl)
           first | exact q | (simp only [nb_y2, a_y2] at q; exact q)
         have N139 := Fr.snoc X139 N136 g_b130
         have O139 := O136.wr W139 g_b130
         have K139 := K136.wr W139 (Or.inr s_b130)
         obtain ⟨y3, hy3⟩ : ∃ z, z = (((128 : Int32) ||| (cp &&& (63 : Int32))).toInt8.toInt32) := ⟨_, rfl⟩
         have nb_y3 : nar .byte y3 = y3 := by rw [hy3]; exact Pd _
         have a_y3 : (y3.toInt8.toInt32) = y3 := nb_y3
         obtain ⟨cl140, Ar140, q140, Sz140, Nn140, Hs140, Gf140⟩ := id V139
         have hin141 := inb_of (j := 3) Sz140 ⟨by decide, by decide⟩
         obtain ⟨T142, h142, X142, e142, W142, st142⟩ := stB X139 hx hZ e139 Ar140 (j := 3) hin141 (g := (mkF m 228 #[vi p0, vi p1, vi p2, vi p3, vi p4, vi ((p1 &&& (2147483647 : Int32)) % (5 : Int32)), vi pr, vr b11, .unset, .unset, vi cp, .unset] [(.int y3), (.int 3), (.ref b130), (.ref b130)])) rfl rfl (hb hby at_228)
         have V142 : Arv Z h142 b130 c130 .byte (4 : Int32) [(.int pr), (.int y1), (.int y2), (.int y3)] (.int 0) := by
           have q := Arv.set Ar140 q140 Sz140 Nn140 Hs140 Gf140 (fits_nar_byte _) W142 3 rfl (Nat.le_of_ble_eq_true rfl)
           first | exact q | (simp only [nb_y3, a_y3] at q; exact q)
         have N142 := Fr.snoc X142 N139 g_b130
         have O142 := O139.wr W142 g_b130
         have K142 := K139.wr W142 (Or.inr s_b130)
         obtain ⟨T143, h143, c143, X143, e143, E143, A143, Ex143, st143⟩ := newPE X142 hx hZ (Ba hw 11 rfl) e142 (g := (mkF m 232 #[vi p0, vi p1, vi p2, vi p3, vi p4, vi ((p1 &&& (2147483647 : Int32)) % (5 : Int32)), vi pr, vr b11, vr b130, .unset, vi cp, .unset] [(.int 2)])) rfl (hb hby at_232) rfl (by decide) (cap := 2) (by decide) (by decide) (by decide) (by decide) (ad := "[C") (by decide)
         obtain ⟨b143, g143⟩ : ∃ z, z = h142.size := ⟨_, rfl⟩
         rw [← g143] at A143 st143 Ex143
         have O143 := O142.ext E143
         have g_b143 : n0 ≤ b143 := Nat.le_trans (Nat.le_of_eq O142.1.symm) (Nat.le_trans O142.2.1 (Nat.le_of_eq g143.symm))
         have s_b143 : h0.size ≤ b143 := Nat.le_trans K142.1 (Nat.le_of_eq g143.symm)
         have K143 := K142.ext E143
         have V143 : Arv Z h143 b143 c143 .char (2 : Int32) [(.int 0), (.int 0)] (.int 0) := (Arv.new A143 (by decide)).pad (pad_rep [] (.int 0) 2)
         have lt_b143 := V143.lt
         obtain ⟨cl144, Ar144, q144, Sz144, Nn144, Hs144, Gf144⟩ := id V143
         have hin145 := inb_of (j := 0) Sz144 ⟨by decide, by decide⟩
         obtain ⟨T146, h146, X146, e146, W146, st146⟩ := stC X143 hx hZ e143 Ar144 (j := 0) hin145 (g := (mkF m 238 #[vi p0, vi p1, vi p2, vi p3, vi p4, vi ((p1 &&& (2147483647 : Int32)) % (5 : Int32)), vi pr, vr b11, vr b130, .unset, vi cp, .unset] [(.int pr), (.int 0), (.ref b143), (.ref b143)])) rfl rfl (hb hby at_238)
         have V146 : Arv Z h146 b143 c143 .char (2 : Int32) [(.int pr), (.int 0)] (.int 0) := by
           have q := Arv.set Ar144 q144 Sz144 Nn144 Hs144 Gf144 (fits_nar_char _) W146 0 rfl (Nat.le_of_ble_eq_true rfl)
           first | exact q | (simp only [nc_pr] at q; exact q)
         have N146 := Fr.snoc X146 N142 g_b143
         have O146 := O143.wr W146 g_b143
         have K146 := K143.wr W146 (Or.inr s_b143)
         obtain ⟨cl147, Ar147, q147, Sz147, Nn147, Hs147, Gf147⟩ := id V146
         have hin148 := inb_of (j := 1) Sz147 ⟨by decide, by decide⟩
         obtain ⟨T149, h149, X149, e149, W149, st149⟩ := stC X146 hx hZ e146 Ar147 (j := 1) hin148 (g := (mkF m 244 #[vi p0, vi p1, vi p2, vi p3, vi p4, vi ((p1 &&& (2147483647 : Int32)) % (5 : Int32)), vi pr, vr b11, vr b130, .unset, vi cp, .unset] [(.int cp), (.int 1), (.ref b143), (.ref b143)])) rfl rfl (hb hby at_244)
         have V149 : Arv Z h149 b143 c143 .char (2 : Int32) [(.int pr), (.int cp)] (.int 0) := by
           have q := Arv.set Ar147 q147 Sz147 Nn147 Hs147 Gf147 (fits_nar_char _) W149 1 rfl (Nat.le_of_ble_eq_true rfl)
           first | exact q | (simp only [nc_cp] at q; exact q)
         have N149 := Fr.snoc X149 N146 g_b143
         have O149 := O146.wr W149 g_b143
         have K149 := K146.wr W149 (Or.inr s_b143)
         obtain ⟨T150, h150, X150, e150, E150, A150, D150, -, st150⟩ := newO X149 hx hZ hown (Ba hw 14 rfl) (Ba hw 15 rfl) (Ba hw 16 rfl) e149 (g := (mkF m 462 #[vi p0, vi p1, vi p2, vi p3, vi p4, vi ((p1 &&& (2147483647 : Int32)) % (5 : Int32)), vi pr, vr b11, vr b130, vr b143, vi cp, .unset] [])) rfl (hb hby at_462) (by decide) (by decide)
         obtain ⟨b150, g150⟩ : ∃ z, z = h149.size := ⟨_, rfl⟩
         rw [← g150] at A150 D150 st150
         have O150 := O149.ext E150
         have g_b150 : n0 ≤ b150 := Nat.le_trans (Nat.le_of_eq O149.1.symm) (Nat.le_trans O149.2.1 (Nat.le_of_eq g150.symm))
         have s_b150 : h0.size ≤ b150 := Nat.le_trans K149.1 (Nat.le_of_eq g150.symm)
         have K150 := K149.ext E150
         have lt_b150 := A150.lt
         have F150_status : Fld Z h150 b150 "com/example/attenuation/attenuation/core/Outcome" "status" "Lcom/example/attenuation/attenuation/core/Outcome$Status;" .null := D150 (Or.inr (Ba hw 41 rfl)) (ty := (.object "com/example/attenuation/attenuation/core/Outcome$Status")) (by decide)
         have F150_body : Fld Z h150 b150 "com/example/attenuation/attenuation/core/Outcome" "body" "[B" .null := D150 (Or.inr (Ba hw 43 rfl)) (ty := (.array .byte)) (by decide)
         obtain ⟨_, _, ⟨T151, L151, k151, n151⟩, -, X151, hS151, hg151, ⟨Lc151, hQ151, l151, y151, z151⟩, st151⟩ := X150.specialBackS hx (y := Rba) rfl hown (mvT hZ (Ba hw 17 rfl)) (mvT hZ (Ba hw 18 rfl)) (mvT hZ (Ba hw 19 rfl)) (by decide) (backOfS (W := 1) (Zwa l Z a0 hw [] b150 b11 b130 _ _ _ _ _ _ _ _ _ h150 n0 O150 hE F150_status F150_body A150 g_b150 ) hZ (Ba hw 19 rfl) (Ba hw 16 rfl) (by decide) (by decide)) (g := (mkF m 470 #[vi p0, vi p1, vi p2, vi p3, vi p4, vi ((p1 &&& (2147483647 : Int32)) % (5 : Int32)), vi pr, vr b11, vr b130, vr b143, vi cp, .unset] [(.ref b130), (.ref b11), (.ref b150), (.ref b150)])) rfl (by rw [hml]; rfl) (Steps.refl _) (a := b150) (argsL := [(.ref b11), (.ref b130)]) (rest := [(.ref b150)]) (lenOf Uc rfl) rfl (by show 2 * 0 + _ ≤ _; exact Nat.le_of_eq rfl) (hb hby at_470) (fun _ _ => ⟨rfl, e150, (by decide : 3 + 4 ≤ _), (by decide : 8 + 48 ≤ _)⟩)
         dsimp only [Pt.U, Pt.locs, Pt.cells, Pt.slots] at X151 l151 y151 z151 st151 hQ151 hS151 hg151
         subst l151 y151 z151
         obtain ⟨X151, hS, hZ, hown⟩ := rebS hS (by rw [e150]; exact (Nat.le_trans (Nat.le_trans (Nat.le_trans (Nat.le_trans (Nat.le_trans (Nat.le_trans (Nat.le_trans (Nat.le_trans (Nat.le_trans hk129 E130.1) (Keep.of_wr W133).1) (Keep.of_wr W136).1) (Keep.of_wr W139).1) (Keep.of_wr W142).1) E143.1) (Keep.of_wr W146).1) (Keep.of_wr W149).1) E150.1)) X151 hS151 hg151 hZ hown
         obtain ⟨rfl, N151q, O151, Kc151, Ex151, G151_0, G151_1⟩ := hQ151
         have N151 := Fr.app N149 N151q
         have K151 := K150.trans Kc151 (allS (Or.inr s_b150) all0)
         obtain ⟨q_1, q_2, q_3, q_4, q_5, q_6, q_7, q_8, q_d⟩ := own_K2 hy1 hy2 hy3 r_cp
         have ne152 : ¬ (b130 = b143) := (Nat.ne_of_lt (Nat.lt_of_lt_of_le (Nat.lt_of_lt_of_le (Nat.lt_of_lt_of_le (Nat.lt_of_lt_of_le (Nat.lt_of_lt_of_le lt_b130 (Keep.of_wr W133).1) (Keep.of_wr W136).1) (Keep.of_wr W139).1) (Keep.of_wr W142).1) (Nat.le_of_eq g143.symm)))
         have ne153 : ¬ (b130 = b150) := (Nat.ne_of_lt (Nat.lt_of_lt_of_le (Nat.lt_of_lt_of_le (Nat.lt_of_lt_of_le (Nat.lt_of_lt_of_le (Nat.lt_of_lt_of_le (Nat.lt_of_lt_of_le (Nat.lt_of_lt_of_le (Nat.lt_of_lt_of_le lt_b130 (Keep.of_wr W133).1) (Keep.of_wr W136).1) (Keep.of_wr W139).1) (Keep.of_wr W142).1) E143.1) (Keep.of_wr W146).1) (Keep.of_wr W149).1) (Nat.le_of_eq g150.symm)))
         have f154 := (((((V142.ext E143).other W146 ne152).other W149 ne152).ext E150).keep Kc151 (fun q => ne153 (List.mem_singleton.mp q)))
         have f155 := (((((((((Ex130.wr W133).wr W136).wr W139).wr W142).ext E143).wr W146).wr W149).ext E150).keep Kc151)
         obtain ⟨v156, T156, Lc156, X156, hQ156, st156⟩ := Z6 X151 hx hZ hown (a := b150) (Kab l Z a0 hw [] b150 b130 c130 pr y1 y2 y3 _ _ _ _ _ _ _ _ _ T151.heap n0 O151 hE G151_1 Ex151 f154 f155 nn_pr q_1 q_2 q_3 q_4 q_5 q_6 q_7 q_8) (Ba hw 44 rfl) (Ba hw 45 rfl) (Ba hw 47 rfl) (Ba hw 46 rfl) (notFace_of_selects (args := #[]) (mvT hZ (Ba hw 47 rfl))) (Ba hw 16 rfl) (Ba hw 48 rfl) rfl Ex151 (g := (mkF m 473 #[vi p0, vi p1, vi p2, vi p3, vi p4, vi ((p1 &&& (2147483647 : Int32)) % (5 : Int32)), vi pr, vr b11, vr b130, vr b143, vi cp, .unset] [(.ref b150)])) rfl (by rw [hml]; rfl) (argsL := []) (rest := []) rfl (lenOf Dm rfl) rfl (W := 0) (by show 2 * 0 + _ ≤ _; exact Nat.le_of_eq rfl) (hb hby at_473) (by decide) (by decide) (by decide) (by decide) (by decide)
         obtain ⟨s156, b156, k156, rfl, N156q, O156, Kc156, g_s156, gs_s156, g_b156, gs_b156, ne_s_b156, F156_0, F156_1, F156_2, F156_3⟩ := hQ156
         have N156 := Fr.app N151 N156q
         have K156 := K151.trans Kc156 (fun x hx => nomatch hx)
         have s_s156 := Nat.le_trans K151.1 gs_s156
         have s_b156 := Nat.le_trans K151.1 gs_b156
         have lt_s156 := F156_0.lt
         have lt_b156 := F156_3.lt
         obtain ⟨T157, h157, X157, e157, E157, A157, D157, -, st157⟩ := newO X156 hx hZ hown (Ba hw 158 rfl) (Ba hw 30 rfl) (Ba hw 29 rfl) rfl (g := (mkF m 478 #[vi p0, vi p1, vi p2, vi p3, vi p4, vi ((p1 &&& (2147483647 : Int32)) % (5 : Int32)), vi pr, vr b11, vr b130, vr b143, vr s156, .unset] [])) rfl (hb hby at_478) (by decide) (by decide)
         obtain ⟨b157, g157⟩ : ∃ z, z = T156.heap.size := ⟨_, rfl⟩
         rw [← g157] at A157 D157 st157
         have O157 := O156.ext E157
         have g_b157 : n0 ≤ b157 := Nat.le_trans (Nat.le_of_eq O156.1.symm) (Nat.le_trans O156.2.1 (Nat.le_of_eq g157.symm))
         have s_b157 : h0.size ≤ b157 := Nat.le_trans K156.1 (Nat.le_of_eq g157.symm)
         have K157 := K156.ext E157
         have lt_b157 := A157.lt
         have F157_value : Fld Z h157 b157 "java/lang/String" "value" "[B" .null := D157 (Or.inr (Ba hw 31 rfl)) (ty := (.array .byte)) (by decide)
         have F157_coder : Fld Z h157 b157 "java/lang/String" "coder" "B" (.int 0) := D157 (Or.inr (Ba hw 32 rfl)) (ty := .byte) (by decide)
         have ne158 : ¬ (b143 = b157) := (Nat.ne_of_lt (Nat.lt_of_lt_of_le (Nat.lt_of_lt_of_le (Nat.lt_of_lt_of_le (Nat.lt_of_lt_of_le (Nat.lt_of_lt_of_le (Nat.lt_of_lt_of_le lt_b143 (Keep.of_wr W146).1) (Keep.of_wr W149).1) E150.1) Kc151.1) Kc156.1) (Nat.le_of_eq g157.symm)))
         have ne159 : ¬ (b143 = b150) := (Nat.ne_of_lt (Nat.lt_of_lt_of_le (Nat.lt_of_lt_of_le (Nat.lt_of_lt_of_le lt_b143 (Keep.of_wr W146).1) (Keep.of_wr W149).1) (Nat.le_of_eq g150.symm)))
         have f160 := ((((V149.ext E150).keep Kc151 (fun q => ne159 (List.mem_singleton.mp q))).keep Kc156 List.not_mem_nil).ext E157)
         obtain ⟨v161, T161, Lc161, X161, hQ161, st161⟩ := G1 X157 hx hZ hown (a := b157) (Y1a l Z a0 hw [] b157 b143 c143 pr cp _ _ _ _ _ _ _ _ _ h157 n0 O157 hE f160 A157 F157_value F157_coder g_b157 ne158 le_pr (G1a (by omega)) nn_pr hh_pr lh_cp.1 lh_cp.2) (Ba hw 159 rfl) (Ba hw 160 rfl) (Ba hw 29 rfl) (Ba hw 161 rfl) e157 (g := (mkF m 484 #[vi p0, vi p1, vi p2, vi p3, vi p4, vi ((p1 &&& (2147483647 : Int32)) % (5 : Int32)), vi pr, vr b11, vr b130, vr b143, vr s156, .unset] [(.ref b143), (.ref b157), (.ref b157)])) rfl (by rw [hml]; rfl) (argsL := [(.ref b143)]) (rest := [(.ref b157)]) rfl (lenOf Gca rfl) rfl (W := 1) (by show 2 * 0 + _ ≤ _; exact Nat.le_of_eq rfl) (hb hby at_484) (by decide) (by decide) (by decide) (by decide) rfl (by decide)
         obtain ⟨b161, k161, rfl, N161q, O161, Kc161, g_b161, gs_b161, F161_0, F161_1, F161_2, F161_3⟩ := hQ161
         have N161 := Fr.app N156 N161q
         have K161 := K157.trans Kc161 (allS (Or.inr s_b157) all0)
         have s_b161 := Nat.le_trans K157.1 gs_b161
         have lt_b161 := F161_3.lt
         have ne162 : ¬ (b157 = s156) := (Ne.symm (Nat.ne_of_lt (Nat.lt_of_lt_of_le lt_s156 (Nat.le_of_eq g157.symm))))
         have f163 := ((F156_0.ext E157).keep Kc161)
         have f164 := ((F156_1.ext E157).keep Kc161 (fun q => (Ne.symm ne162) (List.mem_singleton.mp q)))
         have f165 := ((F156_2.ext E157).keep Kc161 (fun q => (Ne.symm ne162) (List.mem_singleton.mp q)))
         have ne166 : ¬ (b156 = b157) := (Nat.ne_of_lt (Nat.lt_of_lt_of_le lt_b156 (Nat.le_of_eq g157.symm)))
         have f167 := ((F156_3.ext E157).keep Kc161 (fun q => ne166 (List.mem_singleton.mp q)))
         obtain ⟨v168, T168, Lc168, X168, hQ168, st168⟩ := Z6 X161 hx hZ hown (a := b157) (I5a l Z a0 hw [] b157 s156 b161 b156 k161 k156 ((pr >>> ((0 : Int32) &&& 31)).toInt8.toInt32) ((pr >>> ((8 : Int32) &&& 31)).toInt8.toInt32) ((cp >>> ((0 : Int32) &&& 31)).toInt8.toInt32) ((cp >>> ((8 : Int32) &&& 31)).toInt8.toInt32) (((pr &&& (255 : Int32)) >>> ((0 : Int32) &&& 31)).toInt8.toInt32) (((pr &&& (255 : Int32)) >>> ((8 : Int32) &&& 31)).toInt8.toInt32) ((((((y1 <<< ((12 : Int32) &&& 31)) ^^^ (y2 <<< ((6 : Int32) &&& 31))) ^^^ (y3 ^^^ (-123008 : Int32))).toUInt32.toUInt16.toUInt32.toInt32) >>> ((0 : Int32) &&& 31)).toInt8.toInt32) ((((((y1 <<< ((12 : Int32) &&& 31)) ^^^ (y2 <<< ((6 : Int32) &&& 31))) ^^^ (y3 ^^^ (-123008 : Int32))).toUInt32.toUInt16.toUInt32.toInt32) >>> ((8 : Int32) &&& 31)).toInt8.toInt32) _ _ _ _ _ _ _ _ _ T161.heap n0 O161 hE F161_0 F161_1 F161_2 F161_3 f163 f164 f165 f167 ne162 (by rw [pp_pr]) (by rw [pp_pr]) (by rw [q_d]) (by rw [q_d])) (Ba hw 181 rfl) (Ba hw 182 rfl) (Ba hw 184 rfl) (Ba hw 183 rfl) (notFace_of_selects (args := #[]) (mvT hZ (Ba hw 184 rfl))) (Ba hw 29 rfl) (Ba hw 185 rfl) rfl F161_0 (g := (mkF m 489 #[vi p0, vi p1, vi p2, vi p3, vi p4, vi ((p1 &&& (2147483647 : Int32)) % (5 : Int32)), vi pr, vr b11, vr b130, vr b143, vr s156, .unset] [(.ref s156), (.ref b157)])) rfl (by rw [hml]; rfl) (argsL := [(.ref s156)]) (rest := []) rfl (lenOf Dl rfl) rfl (W := 0) (by show 2 * 0 + _ ≤ _; exact Nat.le_of_eq rfl) (hb hby at_489) (by decide) (by decide) (by decide) (by decide) (by decide)
         obtain ⟨rfl, N168q, hp168⟩ := hQ168
         have N168 := Fr.app N161 N168q
         have k169 : Ab p e below m s₁ #[(.int p0), (.int p1), (.int p2), (.int p3), (.int p4)] maxLocals T168 492 #[vi p0, vi p1, vi p2, vi p3, vi p4, vi ((p1 &&& (2147483647 : Int32)) % (5 : Int32)), vi pr, vr b11, vr b130, vr b143, vr s156, .unset] [(.int 1)] := by
          intro t k
          refine k129 t ?_
          refine XS.iconst X129.here hx rfl (hb hby at_178) ?_
          refine st130 _ ?_
          refine XS.dup X130.here hx rfl (hb hby at_181) rfl rfl ?_
          refine XS.iconst X130.here hx rfl (hb hby at_182) ?_
          refine Wa X130 hx hby at_183 rfl ?_
          refine XS.i2b X130.here hx rfl (hb hby at_185) rfl ?_
          show Za p e below m T130 186 #[vi p0, vi p1, vi p2, vi p3, vi p4, vi ((p1 &&& (2147483647 : Int32)) % (5 : Int32)), vi pr, vr b11, .unset, .unset, vi cp, .unset] [(.int (pr.toInt8.toInt32)), (.int 0), (.ref b130), (.ref b130)] t
          rw [a_pr]
          refine st133 _ ?_
          refine XS.dup X133.here hx rfl (hb hby at_187) rfl rfl ?_
          refine XS.iconst X133.here hx rfl (hb hby at_188) ?_
          refine XS.sipush X133.here hx rfl (hb hby at_189) ?_
          refine Wa X133 hx hby at_192 rfl ?_
          refine XS.bipush X133.here hx rfl (hb hby at_194) ?_
          refine XS.ishr X133.here hx rfl (hb hby at_196) rfl ?_
          refine XS.ior X133.here hx rfl (hb hby at_197) rfl ?_
          refine XS.i2b X133.here hx rfl (hb hby at_198) rfl ?_
          show Za p e below m T133 199 #[vi p0, vi p1, vi p2, vi p3, vi p4, vi ((p1 &&& (2147483647 : Int32)) % (5 : Int32)), vi pr, vr b11, .unset, .unset, vi cp, .unset] [(.int (((224 : Int32) ||| (cp >>> ((12 : Int32) &&& 31))).toInt8.toInt32)), (.int 1), (.ref b130), (.ref b130)] t
          rw [← hy1]
          refine st136 _ ?_
          refine XS.dup X136.here hx rfl (hb hby at_200) rfl rfl ?_
          refine XS.iconst X136.here hx rfl (hb hby at_201) ?_
          refine XS.sipush X136.here hx rfl (hb hby at_202) ?_
          refine Wa X136 hx hby at_205 rfl ?_
          refine XS.bipush X136.here hx rfl (hb hby at_207) ?_
          refine XS.ishr X136.here hx rfl (hb hby at_209) rfl ?_
          refine XS.bipush X136.here hx rfl (hb hby at_210) ?_
          refine XS.iand X136.here hx rfl (hb hby at_212) rfl ?_
          refine XS.ior X136.here hx rfl (hb hby at_213) rfl ?_
          refine XS.i2b X136.here hx rfl (hb hby at_214) rfl ?_
          show Za p e below m T136 215 #[vi p0, vi p1, vi p2, vi p3, vi p4, vi ((p1 &&& (2147483647 : Int32)) % (5 : Int32)), vi pr, vr b11, .unset, .unset, vi cp, .unset] [(.int (((128 : Int32) ||| ((cp >>> ((6 : Int32) &&& 31)) &&& (63 : Int32))).toInt8.toInt32)), (.int 2), (.ref b130), (.ref b130)] t
          rw [← hy2]
          refine st139 _ ?_
          refine XS.dup X139.here hx rfl (hb hby at_216) rfl rfl ?_
          refine XS.iconst X139.here hx rfl (hb hby at_217) ?_
          refine XS.sipush X139.here hx rfl (hb hby at_218) ?_
          refine Wa X139 hx hby at_221 rfl ?_
          refine XS.bipush X139.here hx rfl (hb hby at_223) ?_
          refine XS.iand X139.here hx rfl (hb hby at_225) rfl ?_
          refine XS.ior X139.here hx rfl (hb hby at_226) rfl ?_
          refine XS.i2b X139.here hx rfl (hb hby at_227) rfl ?_
          show Za p e below m T139 228 #[vi p0, vi p1, vi p2, vi p3, vi p4, vi ((p1 &&& (2147483647 : Int32)) % (5 : Int32)), vi pr, vr b11, .unset, .unset, vi cp, .unset] [(.int (((128 : Int32) ||| (cp &&& (63 : Int32))).toInt8.toInt32)), (.int 3), (.ref b130), (.ref b130)] t
          rw [← hy3]
          refine st142 _ ?_
          refine XS.astore X142.here hx rfl (hb hby at_229) rfl rfl (l' := #[vi p0, vi p1, vi p2, vi p3, vi p4, vi ((p1 &&& (2147483647 : Int32)) % (5 : Int32)), vi pr, vr b11, vr b130, .unset, vi cp, .unset]) rfl ?_
          refine XS.iconst X142.here hx rfl (hb hby at_231) ?_
          refine st143 _ ?_
          refine XS.dup X143.here hx rfl (hb hby at_234) rfl rfl ?_
          refine XS.iconst X143.here hx rfl (hb hby at_235) ?_
          refine Wa X143 hx hby at_236 rfl ?_
          refine st146 _ ?_
          refine XS.dup X146.here hx rfl (hb hby at_239) rfl rfl ?_
          refine XS.iconst X146.here hx rfl (hb hby at_240) ?_
          refine Wa X146 hx hby at_241 rfl ?_
          show Za p e below m T146 243 #[vi p0, vi p1, vi p2, vi p3, vi p4, vi ((p1 &&& (2147483647 : Int32)) % (5 : Int32)), vi pr, vr b11, vr b130, .unset, vi cp, .unset] [(.int cp), (.int 1), (.ref b143), (.ref b143)] t
          refine XS.i2c X146.here hx rfl (hb hby at_243) rfl ?_
          show Za p e below m T146 244 #[vi p0, vi p1, vi p2, vi p3, vi p4, vi ((p1 &&& (2147483647 : Int32)) % (5 : Int32)), vi pr, vr b11, vr b130, .unset, vi cp, .unset] [(.int (cp.toUInt32.toUInt16.toUInt32.toInt32)), (.int 1), (.ref b143), (.ref b143)] t
          rw [Pza]
          refine st149 _ ?_
          refine XS.astore X149.here hx rfl (hb hby at_245) rfl rfl (l' := #[vi p0, vi p1, vi p2, vi p3, vi p4, vi ((p1 &&& (2147483647 : Int32)) % (5 : Int32)), vi pr, vr b11, vr b130, vr b143, vi cp, .unset]) rfl ?_
          refine XS.goto X149.here hx rfl (pc0 := 247) (pc' := 462) rfl (hb hby at_247) (by decide) (by decide) ?_
          refine st150 _ ?_
          refine XS.dup X150.here hx rfl (hb hby at_465) rfl rfl ?_
          refine Dd X150 hx hby at_466 rfl rfl ?_
          refine Dd X150 hx hby at_468 rfl rfl ?_
          refine st151.trans ?_
          refine st156 _ ?_
          refine XS.astore X156.here hx rfl (hb hby at_476) rfl rfl (l' := #[vi p0, vi p1, vi p2, vi p3, vi p4, vi ((p1 &&& (2147483647 : Int32)) % (5 : Int32)), vi pr, vr b11, vr b130, vr b143, vr s156, .unset]) rfl ?_
          refine st157 _ ?_
          show Za p e below m T157 481 #[vi p0, vi p1, vi p2, vi p3, vi p4, vi ((p1 &&& (2147483647 : Int32)) % (5 : Int32)), vi pr, vr b11, vr b130, vr b143, vr s156, .unset] [(.ref b157)] t
          refine XS.dup X157.here hx rfl (hb hby at_481) rfl rfl ?_
          refine Dd X157 hx hby at_482 rfl rfl ?_
          refine st161 _ ?_
          refine Dd X161 hx hby at_487 rfl rfl ?_
          refine st168 _ ?_
          exact k
         obtain ⟨fs, hr, hrun, hended, hRW⟩ := X168.leaveW hS (by rw [hp168]; exact (Nat.le_trans (Nat.le_trans (Nat.le_trans (Nat.le_refl _) Kc156.1) E157.1) Kc161.1)) (v := some (.int 1)) (fun h => by rw [Bd.returns] at h; cases h)
         refine hNG ⟨_, _, k169 _ ?_, hrun, hended, _, _, rfl, ?_, hRW.1, hRW.2.1, hRW.2.2.1, hRW.2.2.2.mono (by decide) (by decide)⟩
         · exact retN X168 hx (t := .boolean) Bd.returns (by simp) (hb hby at_492) hr
         · show Lxa Z p0 p1 p2 p3 p4 Ra Ya Ia Ua Ka Ga Ma Da Aa h0 n0 _ T168.heap _
           rw [hp168]
           exact ⟨rfl, N168⟩
       have k170 : Ab p e below m s₁ #[(.int p0), (.int p1), (.int p2), (.int p3), (.int p4)] maxLocals T11 167 #[vi p0, vi p1, vi p2, vi p3, vi p4, vi ((p1 &&& (2147483647 : Int32)) % (5 : Int32)), vi pr, vr b11, .unset, .unset, vi cq, .unset] [(.int 55296), (.int cq)] := by
        intro t k
        refine k128 t ?_
        refine Wa X11 hx hby at_163 rfl ?_
        refine X11.ldcI hx hown (mvT hZ (Ba hw 12 rfl)) rfl (hb hby at_165) ?_
        exact k
       by_cases hc171 : cq < (55296 : Int32)
       · have k172 : Ab p e below m s₁ #[(.int p0), (.int p1), (.int p2), (.int p3), (.int p4)] maxLocals T11 178 #[vi p0, vi p1, vi p2, vi p3, vi p4, vi ((p1 &&& (2147483647 : Int32)) % (5 : Int32)), vi pr, vr b11, .unset, .unset, vi cq, .unset] [] := by
          intro t k
          refine k170 t ?_
          refine XS.icmpYes X11.here hx rfl (pc0 := 167) (pc' := 178) rfl (hb hby at_167) rfl (tlt hc171).1 (by decide) (by decide) ?_
          exact k
         exact J129 s.vm _ _ _ T11.heap cq hS (Nat.le_trans (Nat.zero_le _) Kc11.1) hZ hown (X11.more (by decide) (by decide)) rfl N11 O11 K11 (Kbb r_cq hc171) k172
       · have k173 : Ab p e below m s₁ #[(.int p0), (.int p1), (.int p2), (.int p3), (.int p4)] maxLocals T11 178 #[vi p0, vi p1, vi p2, vi p3, vi p4, vi ((p1 &&& (2147483647 : Int32)) % (5 : Int32)), vi pr, vr b11, .unset, .unset, vi (cq + (2048 : Int32)), .unset] [] := by
          intro t k
          refine k170 t ?_
          refine XS.icmpNo X11.here hx rfl (hb hby at_167) rfl (flt hc171).1 ?_
          refine Wa X11 hx hby at_170 rfl ?_
          refine XS.sipush X11.here hx rfl (hb hby at_172) ?_
          refine XS.iadd X11.here hx rfl (hb hby at_175) rfl ?_
          refine XS.istore X11.here hx rfl (hb hby at_176) rfl (l' := #[vi p0, vi p1, vi p2, vi p3, vi p4, vi ((p1 &&& (2147483647 : Int32)) % (5 : Int32)), vi pr, vr b11, .unset, .unset, vi (cq + (2048 : Int32)), .unset]) rfl ?_
          exact k
         exact J129 s.vm _ _ _ T11.heap (cq + (2048 : Int32)) hS (Nat.le_trans (Nat.zero_le _) Kc11.1) hZ hown (X11.more (by decide) (by decide)) rfl N11 O11 K11 (Lbb r_cq hc171) k173
     · have k174 : Ab p e below m s₁ #[(.int p0), (.int p1), (.int p2), (.int p3), (.int p4)] maxLocals T11 253 #[vi p0, vi p1, vi p2, vi p3, vi p4, vi ((p1 &&& (2147483647 : Int32)) % (5 : Int32)), vi pr, vr b11, .unset, .unset, .unset, .unset] [(.int 3), (.int ((p1 &&& (2147483647 : Int32)) % (5 : Int32)))] := by
        intro t k
        refine k126 t ?_
        refine XS.icmpYes X11.here hx rfl (pc0 := 147) (pc' := 250) rfl (hb hby at_147) rfl (feq hc127).2 (by decide) (by decide) ?_
        refine Wa X11 hx hby at_250 rfl ?_
        refine XS.iconst X11.here hx rfl (hb hby at_252) ?_
        exact k
       by_cases hc175 : ((p1 &&& (2147483647 : Int32)) % (5 : Int32)) = (3 : Int32)
       · obtain ⟨vv, hvv⟩ : ∃ z, z = ((p0 &&& (2147483647 : Int32)) % (1048576 : Int32)) := ⟨_, rfl⟩
         have r_vv := own_c3 hvv
         obtain ⟨cp, hcp⟩ : ∃ z, z = ((65536 : Int32) + vv) := ⟨_, rfl⟩
         obtain ⟨T176, h176, c176, X176, e176, E176, A176, Ex176, st176⟩ := newPE X11 hx hZ (Ba hw 10 rfl) rfl (g := (mkF m 273 #[vi p0, vi p1, vi p2, vi p3, vi p4, vi ((p1 &&& (2147483647 : Int32)) % (5 : Int32)), vi pr, vr b11, .unset, .unset, vi vv, vi cp] [(.int 5)])) rfl (hb hby at_273) rfl (by decide) (cap := 5) (by decide) (by decide) (by decide) (by decide) (ad := "[B") (by decide)
         obtain ⟨b176, g176⟩ : ∃ z, z = T11.heap.size := ⟨_, rfl⟩
         rw [← g176] at A176 st176 Ex176
         have O176 := O11.ext E176
         have g_b176 : n0 ≤ b176 := Nat.le_trans (Nat.le_of_eq O11.1.symm) (Nat.le_trans O11.2.1 (Nat.le_of_eq g176.symm))
         have s_b176 : h0.size ≤ b176 := Nat.le_trans K11.1 (Nat.le_of_eq g176.symm)
         have K176 := K11.ext E176
         have V176 : Arv Z h176 b176 c176 .byte (5 : Int32) [(.int 0), (.int 0), (.int 0), (.int 0), (.int 0)] (.int 0) := (Arv.new A176 (by decide)).pad (pad_rep [] (.int 0) 5)
         have lt_b176 := V176.lt
         obtain ⟨cl177, Ar177, q177, Sz177, Nn177, Hs177, Gf177⟩ := id V176
         have hin178 := inb_of (j := 0) Sz177 ⟨by decide, by decide⟩
         obtain ⟨T179, h179, X179, e179, W179, st179⟩ := stB X176 hx hZ e176 Ar177 (j := 0) hin178 (g := (mkF m 280 #[vi p0, vi p1, vi p2, vi p3, vi p4, vi ((p1 &&& (2147483647 : Int32)) % (5 : Int32)), vi pr, vr b11, .unset, .unset, vi vv, vi cp] [(.int pr), (.int 0), (.ref b176), (.ref b176)])) rfl rfl (hb hby at_280)
         have V179 : Arv Z h179 b176 c176 .byte (5 : Int32) [(.int pr), (.int 0), (.int 0), (.int 0), (.int 0)] (.int 0) := by
           have q := Arv.set Ar177 q177 Sz177 Nn177 Hs177 Gf177 (fits_nar_byte _) W179 0 rfl (Nat.le_of_ble_eq_true rfl)
           first | exact q | (simp only [nb_pr, a_pr] at q; exact q)
         have N179 := Fr.snoc X179 N11 g_b176
         have O179 := O176.wr W179 g_b176
         have K179 := K176.wr W179 (Or.inr s_b176)
         obtain ⟨y1, hy1⟩ : ∃ z, z = (((240 : Int32) ||| (cp >>> ((18 : Int32) &&& 31))).toInt8.toInt32) := ⟨_, rfl⟩
         have nb_y1 : nar .byte y1 = y1 := by rw [hy1]; exact Pd _
         have a_y1 : (y1.toInt8.toInt32) = y1 := nb_y1
         obtain ⟨cl180, Ar180, q180, Sz180, Nn180, Hs180, Gf180⟩ := id V179
         have hin181 := inb_of (j := 1) Sz180 ⟨by decide, by decide⟩
         obtain ⟨T182, h182, X182, e182, W182, st182⟩ := stB X179 hx hZ e179 Ar180 (j := 1) hin181 (g := (mkF m 293 #[vi p0, vi p1, vi p2, vi p3, vi p4, vi ((p1 &&& (2147483647 : Int32)) % (5 : Int32)), vi pr, vr b11, .unset, .unset, vi vv, vi cp] [(.int y1), (.int 1), (.ref b176), (.ref b176)])) rfl rfl (hb hby at_293)
         have V182 : Arv Z h182 b176 c176 .byte (5 : Int32) [(.int pr), (.int y1), (.int 0), (.int 0), (.int 0)] (.int 0) := by
           have q := Arv.set Ar180 q180 Sz180 Nn180 Hs180 Gf180 (fits_nar_byte _) W182 1 rfl (Nat.le_of_ble_eq_true rfl)
           first | exact q | (simp only [nb_y1, a_y1] at q; exact q)
         have N182 := Fr.snoc X182 N179 g_b176
         have O182 := O179.wr W182 g_b176
         have K182 := K179.wr W182 (Or.inr s_b176)
         obtain ⟨y2, hy2⟩ : ∃ z, z = (((128 : Int32) ||| ((cp >>> ((12 : Int32) &&& 31)) &&& (63 : Int32))).toInt8.toInt32) := ⟨_, rfl⟩
         have nb_y2 : nar .byte y2 = y2 := by rw [hy2]; exact Pd _
         have a_y2 : (y2.toInt8.toInt32) = y2 := nb_y2
         obtain ⟨cl183, Ar183, q183, Sz183, Nn183, Hs183, Gf183⟩ := id V182
         have hin184 := inb_of (j := 2) Sz183 ⟨by decide, by decide⟩
         obtain ⟨T185, h185, X185, e185, W185, st185⟩ := stB X182 hx hZ e182 Ar183 (j := 2) hin184 (g := (mkF m 309 #[vi p0, vi p1, vi p2, vi p3, vi p4, vi ((p1 &&& (2147483647 : Int32)) % (5 : Int32)), vi pr, vr b11, .unset, .unset, vi vv, vi cp] [(.int y2), (.int 2), (.ref b176), (.ref b176)])) rfl rfl (hb hby at_309)
         have V185 : Arv Z h185 b176 c176 .byte (5 : Int32) [(.int pr), (.int y1), (.int y2), (.int 0), (.int 0)] (.int 0) := by
           have q := Arv.set Ar183 q183 Sz183 Nn183 Hs183 Gf183 (fits_nar_byte _) W185 2 rfl (Nat.le_of_ble_eq_true rfl)
           first | exact q | (simp only [nb_y2, a_y2] at q; exact q)
         have N185 := Fr.snoc X185 N182 g_b176
         have O185 := O182.wr W185 g_b176
         have K185 := K182.wr W185 (Or.inr s_b176)
         obtain ⟨y3, hy3⟩ : ∃ z, z = (((128 : Int32) ||| ((cp >>> ((6 : Int32) &&& 31)) &&& (63 : Int32))).toInt8.toInt32) := ⟨_, rfl⟩
         have nb_y3 : nar .byte y3 = y3 := by rw [hy3]; exact Pd _
         have a_y3 : (y3.toInt8.toInt32) = y3 := nb_y3
         obtain ⟨cl186, Ar186, q186, Sz186, Nn186, Hs186, Gf186⟩ := id V185
         have hin187 := inb_of (j := 3) Sz186 ⟨by decide, by decide⟩
         obtain ⟨T188, h188, X188, e188, W188, st188⟩ := stB X185 hx hZ e185 Ar186 (j := 3) hin187 (g := (mkF m 325 #[vi p0, vi p1, vi p2, vi p3, vi p4, vi ((p1 &&& (2147483647 : Int32)) % (5 : Int32)), vi pr, vr b11, .unset, .unset, vi vv, vi cp] [(.int y3), (.int 3), (.ref b176), (.ref b176)])) rfl rfl (hb hby at_325)
         have V188 : Arv Z h188 b176 c176 .byte (5 : Int32) [(.int pr), (.int y1), (.int y2), (.int y3), (.int 0)] (.int 0) := by
           have q := Arv.set Ar186 q186 Sz186 Nn186 Hs186 Gf186 (fits_nar_byte _) W188 3 rfl (Nat.le_of_ble_eq_true rfl)
           first | exact q | (simp only [nb_y3, a_y3] at q; exact q)
         have N188 := Fr.snoc X188 N185 g_b176
         have O188 := O185.wr W188 g_b176
         have K188 := K185.wr W188 (Or.inr s_b176)
         obtain ⟨y4, hy4⟩ : ∃ z, z = (((128 : Int32) ||| (cp &&& (63 : Int32))).toInt8.toInt32) := ⟨_, rfl⟩
         have nb_y4 : nar .byte y4 = y4 := by rw [hy4]; exact Pd _
         have a_y4 : (y4.toInt8.toInt32) = y4 := nb_y4
         obtain ⟨cl189, Ar189, q189, Sz189, Nn189, Hs189, Gf189⟩ := id V188
         have hin190 := inb_of (j := 4) Sz189 ⟨by decide, by decide⟩
         obtain ⟨T191, h191, X191, e191, W191, st191⟩ := stB X188 hx hZ e188 Ar189 (j := 4) hin190 (g := (mkF m 338 #[vi p0, vi p1, vi p2, vi p3, vi p4, vi ((p1 &&& (2147483647 : Int32)) % (5 : Int32)), vi pr, vr b11, .unset, .unset, vi vv, vi cp] [(.int y4), (.int 4), (.ref b176), (.ref b176)])) rfl rfl (hb hby at_338)
         have V191 : Arv Z h191 b176 c176 .byte (5 : Int32) [(.int pr), (.int y1), (.int y2), (.int y3), (.int y4)] (.int 0) := by
           have q := Arv.set Ar189 q189 Sz189 Nn189 Hs189 Gf189 (fits_nar_byte _) W191 4 rfl (Nat.le_of_ble_eq_true rfl)
           first | exact q | (simp only [nb_y4, a_y4] at q; exact q)
         have N191 := Fr.snoc X191 N188 g_b176
         have O191 := O188.wr W191 g_b176
         have K191 := K188.wr W191 (Or.inr s_b176)
         obtain ⟨T192, h192, c192, X192, e192, E192, A192, Ex192, st192⟩ := newPE X191 hx hZ (Ba hw 11 rfl) e191 (g := (mkF m 342 #[vi p0, vi p1, vi p2, vi p3, vi p4, vi ((p1 &&& (2147483647 : Int32)) % (5 : Int32)), vi pr, vr b11, vr b176, .unset, vi vv, vi cp] [(.int 3)])) rfl (hb hby at_342) rfl (by decide) (cap := 3) (by decide) (by decide) (by decide) (by decide) (ad := "[C") (by decide)
         obtain ⟨b192, g192⟩ : ∃ z, z = h191.size := ⟨_, rfl⟩
         rw [← g192] at A192 st192 Ex192
         have O192 := O191.ext E192
         have g_b192 : n0 ≤ b192 := Nat.le_trans (Nat.le_of_eq O191.1.symm) (Nat.le_trans O191.2.1 (Nat.le_of_eq g192.symm))
         have s_b192 : h0.size ≤ b192 := Nat.le_trans K191.1 (Nat.le_of_eq g192.symm)
         have K192 := K191.ext E192
         have V192 : Arv Z h192 b192 c192 .char (3 : Int32) [(.int 0), (.int 0), (.int 0)] (.int 0) := (Arv.new A192 (by decide)).pad (pad_rep [] (.int 0) 3)
         have lt_b192 := V192.lt
         obtain ⟨cl193, Ar193, q193, Sz193, Nn193, Hs193, Gf193⟩ := id V192
         have hin194 := inb_of (j := 0) Sz193 ⟨by decide, by decide⟩
         obtain ⟨T195, h195, X195, e195, W195, st195⟩ := stC X192 hx hZ e192 Ar193 (j := 0) hin194 (g := (mkF m 348 #[vi p0, vi p1, vi p2, vi p3, vi p4, vi ((p1 &&& (2147483647 : Int32)) % (5 : Int32)), vi pr, vr b11, vr b176, .unset, vi vv, vi cp] [(.int pr), (.int 0), (.ref b192), (.ref b192)])) rfl rfl (hb hby at_348)
         have V195 : Arv Z h195 b192 c192 .char (3 : Int32) [(.int pr), (.int 0), (.int 0)] (.int 0) := by
           have q := Arv.set Ar193 q193 Sz193 Nn193 Hs193 Gf193 (fits_nar_char _) W195 0 rfl (Nat.le_of_ble_eq_true rfl)
           first | exact q | (simp only [nc_pr] at q; exact q)
         have N195 := Fr.snoc X195 N191 g_b192
         have O195 := O192.wr W195 g_b192
         have K195 := K192.wr W195 (Or.inr s_b192)
         obtain ⟨u1, hu1⟩ : ∃ z, z = (((55296 : Int32) + (vv >>> ((10 : Int32) &&& 31))).toUInt32.toUInt16.toUInt32.toInt32) := ⟨_, rfl⟩
         have nc_u1 : nar .char u1 = u1 := by rw [hu1]; exact I6 _
         obtain ⟨cl196, Ar196, q196, Sz196, Nn196, Hs196, Gf196⟩ := id V195
         have hin197 := inb_of (j := 1) Sz196 ⟨by decide, by decide⟩
         obtain ⟨T198, h198, X198, e198, W198, st198⟩ := stC X195 hx hZ e195 Ar196 (j := 1) hin197 (g := (mkF m 360 #[vi p0, vi p1, vi p2, vi p3, vi p4, vi ((p1 &&& (2147483647 : Int32)) % (5 : Int32)), vi pr, vr b11, vr b176, .unset, vi vv, vi cp] [(.int u1), (.int 1), (.ref b192), (.ref b192)])) rfl rfl (hb hby at_360)
         have V198 : Arv Z h198 b192 c192 .char (3 : Int32) [(.int pr), (.int u1), (.int 0)] (.int 0) := by
           have q := Arv.set Ar196 q196 Sz196 Nn196 Hs196 Gf196 (fits_nar_char _) W198 1 rfl (Nat.le_of_ble_eq_true rfl)
           first | exact q | (simp only [nc_u1] at q; exact q)
         have N198 := Fr.snoc X198 N195 g_b192
         have O198 := O195.wr W198 g_b192
         have K198 := K195.wr W198 (Or.inr s_b192)
         obtain ⟨u2, hu2⟩ : ∃ z, z = (((56320 : Int32) + (vv &&& (1023 : Int32))).toUInt32.toUInt16.toUInt32.toInt32) := ⟨_, rfl⟩
         have nc_u2 : nar .char u2 = u2 := by rw [hu2]; exact I6 _
         obtain ⟨cl199, Ar199, q199, Sz199, Nn199, Hs199, Gf199⟩ := id V198
         have hin200 := inb_of (j := 2) Sz199 ⟨by decide, by decide⟩
         obtain ⟨T201, h201, X201, e201, W201, st201⟩ := stC X198 hx hZ e198 Ar199 (j := 2) hin200 (g := (mkF m 373 #[vi p0, vi p1, vi p2, vi p3, vi p4, vi ((p1 &&& (2147483647 : Int32)) % (5 : Int32)), vi pr, vr b11, vr b176, .unset, vi vv, vi cp] [(.int u2), (.int 2), (.ref b192), (.ref b192)])) rfl rfl (hb hby at_373)
         have V201 : Arv Z h201 b192 c192 .char (3 : Int32) [(.int pr), (.int u1), (.int u2)] (.int 0) := by
           have q := Arv.set Ar199 q199 Sz199 Nn199 Hs199 Gf199 (fits_nar_char _) W201 2 rfl (Nat.le_of_ble_eq_true rfl)
           first | exact q | (simp only [nc_u2] at q; exact q)
         have N201 := Fr.snoc X201 N198 g_b192
         have O201 := O198.wr W201 g_b192
         have K201 := K198.wr W201 (Or.inr s_b192)
         obtain ⟨T202, h202, X202, e202, E202, A202, D202, -, st202⟩ := newO X201 hx hZ hown (Ba hw 14 rfl) (Ba hw 15 rfl) (Ba hw 16 rfl) e201 (g := (mkF m 462 #[vi p0, vi p1, vi p2, vi p3, vi p4, vi ((p1 &&& (2147483647 : Int32)) % (5 : Int32)), vi pr, vr b11, vr b176, vr b192, vi vv, vi cp] [])) rfl (hb hby at_462) (by decide) (by decide)
         obtain ⟨b202, g202⟩ : ∃ z, z = h201.size := ⟨_, rfl⟩
         rw [← g202] at A202 D202 st202
         have O202 := O201.ext E202
         have g_b202 : n0 ≤ b202 := Nat.le_trans (Nat.le_of_eq O201.1.symm) (Nat.le_trans O201.2.1 (Nat.le_of_eq g202.symm))
         have s_b202 : h0.size ≤ b202 := Nat.le_trans K201.1 (Nat.le_of_eq g202.symm)
         have K202 := K201.ext E202
         have lt_b202 := A202.lt
         have F202_status : Fld Z h202 b202 "com/example/attenuation/attenuation/core/Outcome" "status" "Lcom/example/attenuation/attenuation/core/Outcome$Status;" .null := D202 (Or.inr (Ba hw 41 rfl)) (ty := (.object "com/example/attenuation/attenuation/core/Outcome$Status")) (by decide)
         have F202_body : Fld Z h202 b202 "com/example/attenuation/attenuation/core/Outcome" "body" "[B" .null := D202 (Or.inr (Ba hw 43 rfl)) (ty := (.array .byte)) (by decide)
         have k203 : Ab p e below m s₁ #[(.int p0), (.int p1), (.int p2), (.int p3), (.int p4)] maxLocals T202 470 #[vi p0, vi p1, vi p2, vi p3, vi p4, vi ((p1 &&& (2147483647 : Int32)) % (5 : Int32)), vi pr, vr b11, vr b176, vr b192, vi vv, vi cp] [(.ref b176), (.ref b11), (.ref b202), (.ref b202)] := by
          intro t k
          refine k174 t ?_
          refine XS.icmpNo X11.here hx rfl (hb hby at_253) rfl (teq hc175).2 ?_
          refine Pa X11 hx hby at_256 rfl ?_
          refine X11.ldcI hx hown (mvT hZ (Ba hw 0 rfl)) rfl (hb hby at_257) ?_
          refine XS.iand X11.here hx rfl (hb hby at_259) rfl ?_
          refine X11.ldcI hx hown (mvT hZ (Ba hw 8 rfl)) rfl (hb hby at_260) ?_
          refine iremM X11 hx rfl (hb hby at_262) rfl (by decide) ?_
          show Za p e below m T11 263 #[vi p0, vi p1, vi p2, vi p3, vi p4, vi ((p1 &&& (2147483647 : Int32)) % (5 : Int32)), vi pr, vr b11, .unset, .unset, .unset, .unset] [(.int ((p0 &&& (2147483647 : Int32)) % (1048576 : Int32)))] t
          rw [← hvv]
          refine XS.istore X11.here hx rfl (hb hby at_263) rfl (l' := #[vi p0, vi p1, vi p2, vi p3, vi p4, vi ((p1 &&& (2147483647 : Int32)) % (5 : Int32)), vi pr, vr b11, .unset, .unset, vi vv, .unset]) rfl ?_
          refine X11.ldcI hx hown (mvT hZ (Ba hw 9 rfl)) rfl (hb hby at_265) ?_
          refine Wa X11 hx hby at_267 rfl ?_
          refine XS.iadd X11.here hx rfl (hb hby at_269) rfl ?_
          show Za p e below m T11 270 #[vi p0, vi p1, vi p2, vi p3, vi p4, vi ((p1 &&& (2147483647 : Int32)) % (5 : Int32)), vi pr, vr b11, .unset, .unset, vi vv, .unset] [(.int ((65536 : Int32) + vv))] t
          rw [← hcp]
          refine XS.istore X11.here hx rfl (hb hby at_270) rfl (l' := #[vi p0, vi p1, vi p2, vi p3, vi p4, vi ((p1 &&& (2147483647 : Int32)) % (5 : Int32)), vi pr, vr b11, .unset, .unset, vi vv, vi cp]) rfl ?_
          refine XS.iconst X11.here hx rfl (hb hby at_272) ?_
          refine st176 _ ?_
          refine XS.dup X176.here hx rfl (hb hby at_275) rfl rfl ?_
          refine XS.iconst X176.here hx rfl (hb hby at_276) ?_
          refine Wa X176 hx hby at_277 rfl ?_
          refine XS.i2b X176.here hx rfl (hb hby at_279) rfl ?_
          show Za p e below m T176 280 #[vi p0, vi p1, vi p2, vi p3, vi p4, vi ((p1 &&& (2147483647 : Int32)) % (5 : Int32)), vi pr, vr b11, .unset, .unset, vi vv, vi cp] [(.int (pr.toInt8.toInt32)), (.int 0), (.ref b176), (.ref b176)] t
          rw [a_pr]
          refine st179 _ ?_
          refine XS.dup X179.here hx rfl (hb hby at_281) rfl rfl ?_
          refine XS.iconst X179.here hx rfl (hb hby at_282) ?_
          refine XS.sipush X179.here hx rfl (hb hby at_283) ?_
          refine Wa X179 hx hby at_286 rfl ?_
          refine XS.bipush X179.here hx rfl (hb hby at_288) ?_
          refine XS.ishr X179.here hx rfl (hb hby at_290) rfl ?_
          refine XS.ior X179.here hx rfl (hb hby at_291) rfl ?_
          refine XS.i2b X179.here hx rfl (hb hby at_292) rfl ?_
          show Za p e below m T179 293 #[vi p0, vi p1, vi p2, vi p3, vi p4, vi ((p1 &&& (2147483647 : Int32)) % (5 : Int32)), vi pr, vr b11, .unset, .unset, vi vv, vi cp] [(.int (((240 : Int32) ||| (cp >>> ((18 : Int32) &&& 31))).toInt8.toInt32)), (.int 1), (.ref b176), (.ref b176)] t
          rw [← hy1]
          refine st182 _ ?_
          refine XS.dup X182.here hx rfl (hb hby at_294) rfl rfl ?_
          refine XS.iconst X182.here hx rfl (hb hby at_295) ?_
          refine XS.sipush X182.here hx rfl (hb hby at_296) ?_
          refine Wa X182 hx hby at_299 rfl ?_
          refine XS.bipush X182.here hx rfl (hb hby at_301) ?_
          refine XS.ishr X182.here hx rfl (hb hby at_303) rfl ?_
          refine XS.bipush X182.here hx rfl (hb hby at_304) ?_
          refine XS.iand X182.here hx rfl (hb hby at_306) rfl ?_
          refine XS.ior X182.here hx rfl (hb hby at_307) rfl ?_
          refine XS.i2b X182.here hx rfl (hb hby at_308) rfl ?_
          show Za p e below m T182 309 #[vi p0, vi p1, vi p2, vi p3, vi p4, vi ((p1 &&& (2147483647 : Int32)) % (5 : Int32)), vi pr, vr b11, .unset, .unset, vi vv, vi cp] [(.int (((128 : Int32) ||| ((cp >>> ((12 : Int32) &&& 31)) &&& (63 : Int32))).toInt8.toInt32)), (.int 2), (.ref b176), (.ref b176)] t
          rw [← hy2]
          refine st185 _ ?_
          refine XS.dup X185.here hx rfl (hb hby at_310) rfl rfl ?_
          refine XS.iconst X185.here hx rfl (hb hby at_311) ?_
          refine XS.sipush X185.here hx rfl (hb hby at_312) ?_
          refine Wa X185 hx hby at_315 rfl ?_
          refine XS.bipush X185.here hx rfl (hb hby at_317) ?_
          refine XS.ishr X185.here hx rfl (hb hby at_319) rfl ?_
          refine XS.bipush X185.here hx rfl (hb hby at_320) ?_
          refine XS.iand X185.here hx rfl (hb hby at_322) rfl ?_
          refine XS.ior X185.here hx rfl (hb hby at_323) rfl ?_
          refine XS.i2b X185.here hx rfl (hb hby at_324) rfl ?_
          show Za p e below m T185 325 #[vi p0, vi p1, vi p2, vi p3, vi p4, vi ((p1 &&& (2147483647 : Int32)) % (5 : Int32)), vi pr, vr b11, .unset, .unset, vi vv, vi cp] [(.int (((128 : Int32) ||| ((cp >>> ((6 : Int32) &&& 31)) &&& (63 : Int32))).toInt8.toInt32)), (.int 3), (.ref b176), (.ref b176)] t
          rw [← hy3]
          refine st188 _ ?_
          refine XS.dup X188.here hx rfl (hb hby at_326) rfl rfl ?_
          refine XS.iconst X188.here hx rfl (hb hby at_327) ?_
          refine XS.sipush X188.here hx rfl (hb hby at_328) ?_
          refine Wa X188 hx hby at_331 rfl ?_
          refine XS.bipush X188.here hx rfl (hb hby at_333) ?_
          refine XS.iand X188.here hx rfl (hb hby at_335) rfl ?_
          refine XS.ior X188.here hx rfl (hb hby at_336) rfl ?_
          refine XS.i2b X188.here hx rfl (hb hby at_337) rfl ?_
          show Za p e below m T188 338 #[vi p0, vi p1, vi p2, vi p3, vi p4, vi ((p1 &&& (2147483647 : Int32)) % (5 : Int32)), vi pr, vr b11, .unset, .unset, vi vv, vi cp] [(.int (((128 : Int32) ||| (cp &&& (63 : Int32))).toInt8.toInt32)), (.int 4), (.ref b176), (.ref b176)] t
          rw [← hy4]
          refine st191 _ ?_
          refine XS.astore X191.here hx rfl (hb hby at_339) rfl rfl (l' := #[vi p0, vi p1, vi p2, vi p3, vi p4, vi ((p1 &&& (2147483647 : Int32)) % (5 : Int32)), vi pr, vr b11, vr b176, .unset, vi vv, vi cp]) rfl ?_
          refine XS.iconst X191.here hx rfl (hb hby at_341) ?_
          refine st192 _ ?_
          refine XS.dup X192.here hx rfl (hb hby at_344) rfl rfl ?_
          refine XS.iconst X192.here hx rfl (hb hby at_345) ?_
          refine Wa X192 hx hby at_346 rfl ?_
          refine st195 _ ?_
          refine XS.dup X195.here hx rfl (hb hby at_349) rfl rfl ?_
          refine XS.iconst X195.here hx rfl (hb hby at_350) ?_
          refine X195.ldcI hx hown (mvT hZ (Ba hw 12 rfl)) rfl (hb hby at_351) ?_
          show Za p e below m T195 353 #[vi p0, vi p1, vi p2, vi p3, vi p4, vi ((p1 &&& (2147483647 : Int32)) % (5 : Int32)), vi pr, vr b11, vr b176, .unset, vi vv, vi cp] [(.int 55296), (.int 1), (.ref b192), (.ref b192)] t
          refine Wa X195 hx hby at_353 rfl ?_
          refine XS.bipush X195.here hx rfl (hb hby at_355) ?_
          refine XS.ishr X195.here hx rfl (hb hby at_357) rfl ?_
          refine XS.iadd X195.here hx rfl (hb hby at_358) rfl ?_
          refine XS.i2c X195.here hx rfl (hb hby at_359) rfl ?_
          show Za p e below m T195 360 #[vi p0, vi p1, vi p2, vi p3, vi p4, vi ((p1 &&& (2147483647 : Int32)) % (5 : Int32)), vi pr, vr b11, vr b176, .unset, vi vv, vi cp] [(.int (((55296 : Int32) + (vv >>> ((10 : Int32) &&& 31))).toUInt32.toUInt16.toUInt32.toInt32)), (.int 1), (.ref b192), (.ref b192)] t
          rw [← hu1]
          refine st198 _ ?_
          refine XS.dup X198.here hx rfl (hb hby at_361) rfl rfl ?_
          refine XS.iconst X198.here hx rfl (hb hby at_362) ?_
          refine X198.ldcI hx hown (mvT hZ (Ba hw 13 rfl)) rfl (hb hby at_363) ?_
          refine Wa X198 hx hby at_365 rfl ?_
          refine XS.sipush X198.here hx rfl (hb hby at_367) ?_
          refine XS.iand X198.here hx rfl (hb hby at_370) rfl ?_
          refine XS.iadd X198.here hx rfl (hb hby at_371) rfl ?_
          refine XS.i2c X198.here hx rfl (hb hby at_372) rfl ?_
          show Za p e below m T198 373 #[vi p0, vi p1, vi p2, vi p3, vi p4, vi ((p1 &&& (2147483647 : Int32)) % (5 : Int32)), vi pr, vr b11, vr b176, .unset, vi vv, vi cp] [(.int (((56320 : Int32) + (vv &&& (1023 : Int32))).toUInt32.toUInt16.toUInt32.toInt32)), (.int 2), (.ref b192), (.ref b192)] t
          rw [← hu2]
          refine st201 _ ?_
          refine XS.astore X201.here hx rfl (hb hby at_374) rfl rfl (l' := #[vi p0, vi p1, vi p2, vi p3, vi p4, vi ((p1 &&& (2147483647 : Int32)) % (5 : Int32)), vi pr, vr b11, vr b176, vr b192, vi vv, vi cp]) rfl ?_
          refine XS.goto X201.here hx rfl (pc0 := 376) (pc' := 462) rfl (hb hby at_376) (by decide) (by decide) ?_
          refine st202 _ ?_
          refine XS.dup X202.here hx rfl (hb hby at_465) rfl rfl ?_
          refine Dd X202 hx hby at_466 rfl rfl ?_
          refine Dd X202 hx hby at_468 rfl rfl ?_
          exact k
         obtain ⟨_, _, ⟨T204, L204, k204, n204⟩, -, X204, hS204, hg204, ⟨Lc204, hQ204, l204, y204, z204⟩, st204⟩ := X202.specialBackS hx (y := Rba) rfl hown (mvT hZ (Ba hw 17 rfl)) (mvT hZ (Ba hw 18 rfl)) (mvT hZ (Ba hw 19 rfl)) (by decide) (backOfS (W := 1) (Zwa l Z a0 hw [] b202 b11 b176 _ _ _ _ _ _ _ _ _ h202 n0 O202 hE F202_status F202_body A202 g_b202 ) hZ (Ba hw 19 rfl) (Ba hw 16 rfl) (by decide) (by decide)) (g := (mkF m 470 #[vi p0, vi p1, vi p2, vi p3, vi p4, vi ((p1 &&& (2147483647 : Int32)) % (5 : Int32)), vi pr, vr b11, vr b176, vr b192, vi vv, vi cp] [(.ref b176), (.ref b11), (.ref b202), (.ref b202)])) rfl (by rw [hml]; rfl) (Steps.refl _) (a := b202) (argsL := [(.ref b11), (.ref b176)]) (rest := [(.ref b202)]) (lenOf Uc rfl) rfl (by show 2 * 0 + _ ≤ _; exact Nat.le_of_eq rfl) (hb hby at_470) (fun _ _ => ⟨rfl, e202, (by decide : 3 + 4 ≤ _), (by decide : 10 + 48 ≤ _)⟩)
         dsimp only [Pt.U, Pt.locs, Pt.cells, Pt.slots] at X204 l204 y204 z204 st204 hQ204 hS204 hg204
         subst l204 y204 z204
         obtain ⟨X204, hS, hZ, hown⟩ := rebS hS (by rw [e202]; exact (Nat.le_trans (Nat.le_trans (Nat.le_trans (Nat.le_trans (Nat.le_trans (Nat.le_trans (Nat.le_trans (Nat.le_trans (Nat.le_trans (Nat.le_trans (Nat.le_trans (Nat.le_trans (Nat.zero_le _) Kc11.1) E176.1) (Keep.of_wr W179).1) (Keep.of_wr W182).1) (Keep.of_wr W185).1) (Keep.of_wr W188).1) (Keep.of_wr W191).1) E192.1) (Keep.of_wr W195).1) (Keep.of_wr W198).1) (Keep.of_wr W201).1) E202.1)) X204 hS204 hg204 hZ hown
         obtain ⟨rfl, N204q, O204, Kc204, Ex204, G204_0, G204_1⟩ := hQ204
         have N204 := Fr.app N201 N204q
         have K204 := K202.trans Kc204 (allS (Or.inr s_b202) all0)
         obtain ⟨q_1, q_2, q_3, q_4, q_5, q_6, q_7, q_8, q_9, q_x, q_h, q_l, q_g, q_u, q_v⟩ := own_K3 r_vv hcp hy1 hy2 hy3 hy4 hu1 hu2
         have ne205 : ¬ (b176 = b192) := (Nat.ne_of_lt (Nat.lt_of_lt_of_le (Nat.lt_of_lt_of_le (Nat.lt_of_lt_of_le (Nat.lt_of_lt_of_le (Nat.lt_of_lt_of_le (Nat.lt_of_lt_of_le lt_b176 (Keep.of_wr W179).1) (Keep.of_wr W182).1) (Keep.of_wr W185).1) (Keep.of_wr W188).1) (Keep.of_wr W191).1) (Nat.le_of_eq g192.symm)))
         have ne206 : ¬ (b176 = b202) := (Nat.ne_of_lt (Nat.lt_of_lt_of_le (Nat.lt_of_lt_of_le (Nat.lt_of_lt_of_le (Nat.lt_of_lt_of_le (Nat.lt_of_lt_of_le (Nat.lt_of_lt_of_le (Nat.lt_of_lt_of_le (Nat.lt_of_lt_of_le (Nat.lt_of_lt_of_le (Nat.lt_of_lt_of_le lt_b176 (Keep.of_wr W179).1) (Keep.of_wr W182).1) (Keep.of_wr W185).1) (Keep.of_wr W188).1) (Keep.of_wr W191).1) E192.1) (Keep.of_wr W195).1) (Keep.of_wr W198).1) (Keep.of_wr W201).1) (Nat.le_of_eq g202.symm)))
         have f207 := ((((((V191.ext E192).other W195 ne205).other W198 ne205).other W201 ne205).ext E202).keep Kc204 (fun q => ne206 (List.mem_singleton.mp q)))
         have f208 := (((((((((((Ex176.wr W179).wr W182).wr W185).wr W188).wr W191).ext E192).wr W195).wr W198).wr W201).ext E202).keep Kc204)
         obtain ⟨v209, T209, Lc209, X209, hQ209, st209⟩ := Z6 X204 hx hZ hown (a := b202) (Pab l Z a0 hw [] b202 b176 c176 pr y1 y2 y3 y4 _ _ _ _ _ _ _ _ _ T204.heap n0 O204 hE G204_1 Ex204 f207 f208 nn_pr q_1 q_2 q_3 q_4 q_5 q_6 q_7 q_8 q_9 q_x) (Ba hw 44 rfl) (Ba hw 45 rfl) (Ba hw 47 rfl) (Ba hw 46 rfl) (notFace_of_selects (args := #[]) (mvT hZ (Ba hw 47 rfl))) (Ba hw 16 rfl) (Ba hw 48 rfl) rfl Ex204 (g := (mkF m 473 #[vi p0, vi p1, vi p2, vi p3, vi p4, vi ((p1 &&& (2147483647 : Int32)) % (5 : Int32)), vi pr, vr b11, vr b176, vr b192, vi vv, vi cp] [(.ref b202)])) rfl (by rw [hml]; rfl) (argsL := []) (rest := []) rfl (lenOf Dm rfl) rfl (W := 0) (by show 2 * 0 + _ ≤ _; exact Nat.le_of_eq rfl) (hb hby at_473) (by decide) (by decide) (by decide) (by decide) (by decide)
         obtain ⟨s209, b209, k209, rfl, N209q, O209, Kc209, g_s209, gs_s209, g_b209, gs_b209, ne_s_b209, F209_0, F209_1, F209_2, F209_3⟩ := hQ209
         have N209 := Fr.app N204 N209q
         have K209 := K204.trans Kc209 (fun x hx => nomatch hx)
         have s_s209 := Nat.le_trans K204.1 gs_s209
         have s_b209 := Nat.le_trans K204.1 gs_b209
         have lt_s209 := F209_0.lt
         have lt_b209 := F209_3.lt
         obtain ⟨T210, h210, X210, e210, E210, A210, D210, -, st210⟩ := newO X209 hx hZ hown (Ba hw 158 rfl) (Ba hw 30 rfl) (Ba hw 29 rfl) rfl (g := (mkF m 478 #[vi p0, vi p1, vi p2, vi p3, vi p4, vi ((p1 &&& (2147483647 : Int32)) % (5 : Int32)), vi pr, vr b11, vr b176, vr b192, vr s209, vi cp] [])) rfl (hb hby at_478) (by decide) (by decide)
         obtain ⟨b210, g210⟩ : ∃ z, z = T209.heap.size := ⟨_, rfl⟩
         rw [← g210] at A210 D210 st210
         have O210 := O209.ext E210
         have g_b210 : n0 ≤ b210 := Nat.le_trans (Nat.le_of_eq O209.1.symm) (Nat.le_trans O209.2.1 (Nat.le_of_eq g210.symm))
         have s_b210 : h0.size ≤ b210 := Nat.le_trans K209.1 (Nat.le_of_eq g210.symm)
         have K210 := K209.ext E210
         have lt_b210 := A210.lt
         have F210_value : Fld Z h210 b210 "java/lang/String" "value" "[B" .null := D210 (Or.inr (Ba hw 31 rfl)) (ty := (.array .byte)) (by decide)
         have F210_coder : Fld Z h210 b210 "java/lang/String" "coder" "B" (.int 0) := D210 (Or.inr (Ba hw 32 rfl)) (ty := .byte) (by decide)
         have ne211 : ¬ (b192 = b210) := (Nat.ne_of_lt (Nat.lt_of_lt_of_le (Nat.lt_of_lt_of_le (Nat.lt_of_lt_of_le (Nat.lt_of_lt_of_le (Nat.lt_of_lt_of_le (Nat.lt_of_lt_of_le (Nat.lt_of_lt_of_le lt_b192 (Keep.of_wr W195).1) (Keep.of_wr W198).1) (Keep.of_wr W201).1) E202.1) Kc204.1) Kc209.1) (Nat.le_of_eq g210.symm)))
         have ne212 : ¬ (b192 = b202) := (Nat.ne_of_lt (Nat.lt_of_lt_of_le (Nat.lt_of_lt_of_le (Nat.lt_of_lt_of_le (Nat.lt_of_lt_of_le lt_b192 (Keep.of_wr W195).1) (Keep.of_wr W198).1) (Keep.of_wr W201).1) (Nat.le_of_eq g202.symm)))
         have f213 := ((((V201.ext E202).keep Kc204 (fun q => ne212 (List.mem_singleton.mp q))).keep Kc209 List.not_mem_nil).ext E210)
         obtain ⟨v214, T214, Lc214, X214, hQ214, st214⟩ := G1 X210 hx hZ hown (a := b210) (Z1a l Z a0 hw [] b210 b192 c192 pr u1 u2 _ _ _ _ _ _ _ _ _ h210 n0 O210 hE f213 A210 F210_value F210_coder g_b210 ne211 le_pr q_g nn_pr hh_pr q_u.1 q_u.2 q_v.1 q_v.2) (Ba hw 159 rfl) (Ba hw 160 rfl) (Ba hw 29 rfl) (Ba hw 161 rfl) e210 (g := (mkF m 484 #[vi p0, vi p1, vi p2, vi p3, vi p4, vi ((p1 &&& (2147483647 : Int32)) % (5 : Int32)), vi pr, vr b11, vr b176, vr b192, vr s209, vi cp] [(.ref b192), (.ref b210), (.ref b210)])) rfl (by rw [hml]; rfl) (argsL := [(.ref b192)]) (rest := [(.ref b210)]) rfl (lenOf Gca rfl) rfl (W := 1) (by show 2 * 0 + _ ≤ _; exact Nat.le_of_eq rfl) (hb hby at_484) (by decide) (by decide) (by decide) (by decide) rfl (by decide)
         obtain ⟨b214, k214, rfl, N214q, O214, Kc214, g_b214, gs_b214, F214_0, F214_1, F214_2, F214_3⟩ := hQ214
         have N214 := Fr.app N209 N214q
         have K214 := K210.trans Kc214 (allS (Or.inr s_b210) all0)
         have s_b214 := Nat.le_trans K210.1 gs_b214
         have lt_b214 := F214_3.lt
         have ne215 : ¬ (b210 = s209) := (Ne.symm (Nat.ne_of_lt (Nat.lt_of_lt_of_le lt_s209 (Nat.le_of_eq g210.symm))))
         have f216 := ((F209_0.ext E210).keep Kc214)
         have f217 := ((F209_1.ext E210).keep Kc214 (fun q => (Ne.symm ne215) (List.mem_singleton.mp q)))
         have f218 := ((F209_2.ext E210).keep Kc214 (fun q => (Ne.symm ne215) (List.mem_singleton.mp q)))
         have ne219 : ¬ (b209 = b210) := (Nat.ne_of_lt (Nat.lt_of_lt_of_le lt_b209 (Nat.le_of_eq g210.symm)))
         have f220 := ((F209_3.ext E210).keep Kc214 (fun q => ne219 (List.mem_singleton.mp q)))
         obtain ⟨v221, T221, Lc221, X221, hQ221, st221⟩ := Z6 X214 hx hZ hown (a := b210) (K5a l Z a0 hw [] b210 s209 b214 b209 k214 k209 ((pr >>> ((0 : Int32) &&& 31)).toInt8.toInt32) ((pr >>> ((8 : Int32) &&& 31)).toInt8.toInt32) ((u1 >>> ((0 : Int32) &&& 31)).toInt8.toInt32) ((u1 >>> ((8 : Int32) &&& 31)).toInt8.toInt32) ((u2 >>> ((0 : Int32) &&& 31)).toInt8.toInt32) ((u2 >>> ((8 : Int32) &&& 31)).toInt8.toInt32) (((pr &&& (255 : Int32)) >>> ((0 : Int32) &&& 31)).toInt8.toInt32) (((pr &&& (255 : Int32)) >>> ((8 : Int32) &&& 31)).toInt8.toInt32) ((((((((((y1 <<< ((18 : Int32) &&& 31)) ^^^ (y2 <<< ((12 : Int32) &&& 31))) ^^^ (y3 <<< ((6 : Int32) &&& 31))) ^^^ (y4 ^^^ (3678080 : Int32))).toUInt32 >>> ((10 : Int32) &&& 31).toUInt32).toInt32) + (55232 : Int32)).toUInt32.toUInt16.toUInt32.toInt32) >>> ((0 : Int32) &&& 31)).toInt8.toInt32) ((((((((((y1 <<< ((18 : Int32) &&& 31)) ^^^ (y2 <<< ((12 : Int32) &&& 31))) ^^^ (y3 <<< ((6 : Int32) &&& 31))) ^^^ (y4 ^^^ (3678080 : Int32))).toUInt32 >>> ((10 : Int32) &&& 31).toUInt32).toInt32) + (55232 : Int32)).toUInt32.toUInt16.toUInt32.toInt32) >>> ((8 : Int32) &&& 31)).toInt8.toInt32) (((((((((y1 <<< ((18 : Int32) &&& 31)) ^^^ (y2 <<< ((12 : Int32) &&& 31))) ^^^ (y3 <<< ((6 : Int32) &&& 31))) ^^^ (y4 ^^^ (3678080 : Int32))) &&& (1023 : Int32)) + (56320 : Int32)).toUInt32.toUInt16.toUInt32.toInt32) >>> ((0 : Int32) &&& 31)).toInt8.toInt32) (((((((((y1 <<< ((18 : Int32) &&& 31)) ^^^ (y2 <<< ((12 : Int32) &&& 31))) ^^^ (y3 <<< ((6 : Int32) &&& 31))) ^^^ (y4 ^^^ (3678080 : Int32))) &&& (1023 : Int32)) + (56320 : Int32)).toUInt32.toUInt16.toUInt32.toInt32) >>> ((8 : Int32) &&& 31)).toInt8.toInt32) _ _ _ _ _ _ _ _ _ T214.heap n0 O214 hE F214_0 F214_1 F214_2 F214_3 f216 f217 f218 f220 ne215 (by rw [pp_pr]) (by rw [pp_pr]) (by rw [q_h]) (by rw [q_h]) (by rw [q_l]) (by rw [q_l])) (Ba hw 181 rfl) (Ba hw 182 rfl) (Ba hw 184 rfl) (Ba hw 183 rfl) (notFace_of_selects (args := #[]) (mvT hZ (Ba hw 184 rfl))) (Ba hw 29 rfl) (Ba hw 185 rfl) rfl F214_0 (g := (mkF m 489 #[vi p0, vi p1, vi p2, vi p3, vi p4, vi ((p1 &&& (2147483647 : Int32)) % (5 : Int32)), vi pr, vr b11, vr b176, vr b192, vr s209, vi cp] [(.ref s209), (.ref b210)])) rfl (by rw [hml]; rfl) (argsL := [(.ref s209)]) (rest := []) rfl (lenOf Dl rfl) rfl (W := 0) (by show 2 * 0 + _ ≤ _; exact Nat.le_of_eq rfl) (hb hby at_489) (by decide) (by decide) (by decide) (by decide) (by decide)
         obtain ⟨rfl, N221q, hp221⟩ := hQ221
         have N221 := Fr.app N214 N221q
         have k222 : Ab p e below m s₁ #[(.int p0), (.int p1), (.int p2), (.int p3), (.int p4)] maxLocals T221 492 #[vi p0, vi p1, vi p2, vi p3, vi p4, vi ((p1 &&& (2147483647 : Int32)) % (5 : Int32)), vi pr, vr b11, vr b176, vr b192, vr s209, vi cp] [(.int 1)] := by
          intro t k
          refine k203 t ?_
          refine st204.trans ?_
          refine st209 _ ?_
          refine XS.astore X209.here hx rfl (hb hby at_476) rfl rfl (l' := #[vi p0, vi p1, vi p2, vi p3, vi p4, vi ((p1 &&& (2147483647 : Int32)) % (5 : Int32)), vi pr, vr b11, vr b176, vr b192, vr s209, vi cp]) rfl ?_
          refine st210 _ ?_
          refine XS.dup X210.here hx rfl (hb hby at_481) rfl rfl ?_
          refine Dd X210 hx hby at_482 rfl rfl ?_
          refine st214 _ ?_
          refine Dd X214 hx hby at_487 rfl rfl ?_
          refine st221 _ ?_
          exact k
         obtain ⟨fs, hr, hrun, hended, hRW⟩ := X221.leaveW hS (by rw [hp221]; exact (Nat.le_trans (Nat.le_trans (Nat.le_trans (Nat.le_refl _) Kc209.1) E210.1) Kc214.1)) (v := some (.int 1)) (fun h => by rw [Bd.returns] at h; cases h)
         refine hNG ⟨_, _, k222 _ ?_, hrun, hended, _, _, rfl, ?_, hRW.1, hRW.2.1, hRW.2.2.1, hRW.2.2.2.mono (by decide) (by decide)⟩
         · exact retN X221 hx (t := .boolean) Bd.returns (by simp) (hb hby at_492) hr
         · show Lxa Z p0 p1 p2 p3 p4 Ra Ya Ia Ua Ka Ga Ma Da Aa h0 n0 _ T221.heap _
           rw [hp221]
           exact ⟨rfl, N221⟩
       · have k223 : Ab p e below m s₁ #[(.int p0), (.int p1), (.int p2), (.int p3), (.int p4)] maxLocals T11 379 #[vi p0, vi p1, vi p2, vi p3, vi p4, vi ((p1 &&& (2147483647 : Int32)) % (5 : Int32)), vi pr, vr b11, .unset, .unset, .unset, .unset] [] := by
          intro t k
          refine k174 t ?_
          refine XS.icmpYes X11.here hx rfl (pc0 := 253) (pc' := 379) rfl (hb hby at_253) rfl (feq hc175).2 (by decide) (by decide) ?_
          exact k
         have J224 : ∀ (vm224 : Vm) (kk224 : Nat) (T224 : State) (locs224 : List Loc) (h224 : Heap) (dd : Int32) (hS : s.Since vm224 kk224) (hk224 : kk224 ≤ h224.size) (hZ : Z.Warmed39 (s.setVm vm224).vm) (hown : (s.setVm vm224).vm.findClass "com/example/attenuation/attenuation/core/OutcomeTextPinLaw" = some m.cls) (X224 : Stand p l e room_1 (s.setVm vm224) m #[(.int p0), (.int p1), (.int p2), (.int p3), (.int p4)] below meth c T224 locs224 0 0) (e224 : T224.heap = h224) (N224 : Fr n0 locs224) (O224 : Old Z n0 h224) (K224 : Keep h0 h224 []) (r_dd : (dd.toInt8.toInt32) < (0 : Int32) ∧ ¬ (((dd.toInt8.toInt32) &&& (254 : Int32)) = (194 : Int32)) ∧ ¬ (((dd.toInt8.toInt32) >>> ((5 : Int32) &&& 31)) = (-2 : Int32)) ∧ ¬ (((dd.toInt8.toInt32) >>> ((4 : Int32) &&& 31)) = (-2 : Int32)) ∧ ¬ (((dd.toInt8.toInt32) >>> ((3 : Int32) &&& 31)) = (-2 : Int32))) (k224 : ∀ t, Za p e below m T224 412 #[vi p0, vi p1, vi p2, vi p3, vi p4, vi ((p1 &&& (2147483647 : Int32)) % (5 : Int32)), vi pr, vr b11, .unset, .unset, vi dd, .unset] [] t → L1a p e below m s₁ #[(.int p0), (.int p1), (.int p2), (.int p3), (.int p4)] maxLocals t), False := by
           intro vm224 kk224 T224 locs224 h224 dd hS hk224 hZ hown X224 e224 N224 O224 K224 r_dd k224
           obtain ⟨ch, hch⟩ : ∃ z, z = ((p0 &&& (127 : Int32)).toUInt32.toUInt16.toUInt32.toInt32) := ⟨_, rfl⟩
           obtain ⟨a_ch, nb_ch, M4a, nc_ch, pp_ch, nn_ch, le_ch, hh_ch⟩ := L2a hch
           obtain ⟨T225, h225, c225, X225, e225, E225, A225, Ex225, st225⟩ := newPE X224 hx hZ (Ba hw 10 rfl) e224 (g := (mkF m 420 #[vi p0, vi p1, vi p2, vi p3, vi p4, vi ((p1 &&& (2147483647 : Int32)) % (5 : Int32)), vi pr, vr b11, .unset, .unset, vi dd, vi ch] [(.int 3)])) rfl (hb hby at_420) rfl (by decide) (cap := 3) (by decide) (by decide) (by decide) (by decide) (ad := "[B") (by decide)
           obtain ⟨b225, g225⟩ : ∃ z, z = h224.size := ⟨_, rfl⟩
           rw [← g225] at A225 st225 Ex225
           have O225 := O224.ext E225
           have g_b225 : n0 ≤ b225 := Nat.le_trans (Nat.le_of_eq O224.1.symm) (Nat.le_trans O224.2.1 (Nat.le_of_eq g225.symm))
           have s_b225 : h0.size ≤ b225 := Nat.le_trans K224.1 (Nat.le_of_eq g225.symm)
           have K225 := K224.ext E225
           have V225 : Arv Z h225 b225 c225 .byte (3 : Int32) [(.int 0), (.int 0), (.int 0)] (.int 0) := (Arv.new A225 (by decide)).pad (pad_rep [] (.int 0) 3)
           have lt_b225 := V225.lt
           obtain ⟨cl226, Ar226, q226, Sz226, Nn226, Hs226, Gf226⟩ := id V225
           have hin227 := inb_of (j := 0) Sz226 ⟨by decide, by decide⟩
           obtain ⟨T228, h228, X228, e228, W228, st228⟩ := stB X225 hx hZ e225 Ar226 (j := 0) hin227 (g := (mkF m 427 #[vi p0, vi p1, vi p2, vi p3, vi p4, vi ((p1 &&& (2147483647 : Int32)) % (5 : Int32)), vi pr, vr b11, .unset, .unset, vi dd, vi ch] [(.int pr), (.int 0), (.ref b225), (.ref b225)])) rfl rfl (hb hby at_427)
           have V228 : Arv Z h228 b225 c225 .byte (3 : Int32) [(.int pr), (.int 0), (.int 0)] (.int 0) := by
             have q := Arv.set Ar226 q226 Sz226 Nn226 Hs226 Gf226 (fits_nar_byte _) W228 0 rfl (Nat.le_of_ble_eq_true rfl)
             first | exact q | (simp only [nb_pr, a_pr] at q; exact q)
           have N228 := Fr.snoc X228 N224 g_b225
           have O228 := O225.wr W228 g_b225
           have K228 := K225.wr W228 (Or.inr s_b225)
           obtain ⟨cl229, Ar229, q229, Sz229, Nn229, Hs229, Gf229⟩ := id V228
           have hin230 := inb_of (j := 1) Sz229 ⟨by decide, by decide⟩
           obtain ⟨T231, h231, X231, e231, W231, st231⟩ := stB X228 hx hZ e228 Ar229 (j := 1) hin230 (g := (mkF m 433 #[vi p0, vi p1, vi p2, vi p3, vi p4, vi ((p1 &&& (2147483647 : Int32)) % (5 : Int32)), vi pr, vr b11, .unset, .unset, vi dd, vi ch] [(.int (dd.toInt8.toInt32)), (.int 1), (.ref b225), (.ref b225)])) rfl rfl (hb hby at_433)
           have V231 : Arv Z h231 b225 c225 .byte (3 : Int32) [(.int pr), (.int (dd.toInt8.toInt32)), (.int 0)] (.int 0) := by
             have q := Arv.set Ar229 q229 Sz229 Nn229 Hs229 Gf229 (fits_nar_byte _) W231 1 rfl (Nat.le_of_ble_eq_true rfl)
             first | exact q | (simp only [Bl, Pd] at q; exact q)
           have N231 := Fr.snoc X231 N228 g_b225
           have O231 := O228.wr W231 g_b225
           have K231 := K228.wr W231 (Or.inr s_b225)
           obtain ⟨cl232, Ar232, q232, Sz232, Nn232, Hs232, Gf232⟩ := id V231
           have hin233 := inb_of (j := 2) Sz232 ⟨by decide, by decide⟩
           obtain ⟨T234, h234, X234, e234, W234, st234⟩ := stB X231 hx hZ e231 Ar232 (j := 2) hin233 (g := (mkF m 439 #[vi p0, vi p1, vi p2, vi p3, vi p4, vi ((p1 &&& (2147483647 : Int32)) % (5 : Int32)), vi pr, vr b11, .unset, .unset, vi dd, vi ch] [(.int ch), (.int 2), (.ref b225), (.ref b225)])) rfl rfl (hb hby at_439)
           have V234 : Arv Z h234 b225 c225 .byte (3 : Int32) [(.int pr), (.int (dd.toInt8.toInt32)), (.int ch)] (.int 0) := by
             have q := Arv.set Ar232 q232 Sz232 Nn232 Hs232 Gf232 (fits_nar_byte _) W234 2 rfl (Nat.le_of_ble_eq_true rfl)
             first | exact q | (simp only [nb_ch, a_ch] at q; exact q)
           have N234 := Fr.snoc X234 N231 g_b225
           have O234 := O231.wr W234 g_b225
           have K234 := K231.wr W234 (Or.inr s_b225)
           obtain ⟨T235, h235, c235, X235, e235, E235, A235, Ex235, st235⟩ := newPE X234 hx hZ (Ba hw 11 rfl) e234 (g := (mkF m 443 #[vi p0, vi p1, vi p2, vi p3, vi p4, vi ((p1 &&& (2147483647 : Int32)) % (5 : Int32)), vi pr, vr b11, vr b225, .unset, vi dd, vi ch] [(.int 3)])) rfl (hb hby at_443) rfl (by decide) (cap := 3) (by decide) (by decide) (by decide) (by decide) (ad := "[C") (by decide)
           obtain ⟨b235, g235⟩ : ∃ z, z = h234.size := ⟨_, rfl⟩
           rw [← g235] at A235 st235 Ex235
           have O235 := O234.ext E235
           have g_b235 : n0 ≤ b235 := Nat.le_trans (Nat.le_of_eq O234.1.symm) (Nat.le_trans O234.2.1 (Nat.le_of_eq g235.symm))
           have s_b235 : h0.size ≤ b235 := Nat.le_trans K234.1 (Nat.le_of_eq g235.symm)
           have K235 := K234.ext E235
           have V235 : Arv Z h235 b235 c235 .char (3 : Int32) [(.int 0), (.int 0), (.int 0)] (.int 0) := (Arv.new A235 (by decide)).pad (pad_rep [] (.int 0) 3)
           have lt_b235 := V235.lt
           obtain ⟨cl236, Ar236, q236, Sz236, Nn236, Hs236, Gf236⟩ := id V235
           have hin237 := inb_of (j := 0) Sz236 ⟨by decide, by decide⟩
           obtain ⟨T238, h238, X238, e238, W238, st238⟩ := stC X235 hx hZ e235 Ar236 (j := 0) hin237 (g := (mkF m 449 #[vi p0, vi p1, vi p2, vi p3, vi p4, vi ((p1 &&& (2147483647 : Int32)) % (5 : Int32)), vi pr, vr b11, vr b225, .unset, vi dd, vi ch] [(.int pr), (.int 0), (.ref b235), (.ref b235)])) rfl rfl (hb hby at_449)
           have V238 : Arv Z h238 b235 c235 .char (3 : Int32) [(.int pr), (.int 0), (.int 0)] (.int 0) := by
             have q := Arv.set Ar236 q236 Sz236 Nn236 Hs236 Gf236 (fits_nar_char _) W238 0 rfl (Nat.le_of_ble_eq_true rfl)
             first | exact q | (simp only [nc_pr] at q; exact q)
           have N238 := Fr.snoc X238 N234 g_b235
           have O238 := O235.wr W238 g_b235
           have K238 := K235.wr W238 (Or.inr s_b235)
           obtain ⟨cl239, Ar239, q239, Sz239, Nn239, Hs239, Gf239⟩ := id V238
           have hin240 := inb_of (j := 1) Sz239 ⟨by decide, by decide⟩
           obtain ⟨T241, h241, X241, e241, W241, st241⟩ := stC X238 hx hZ e238 Ar239 (j := 1) hin240 (g := (mkF m 454 #[vi p0, vi p1, vi p2, vi p3, vi p4, vi ((p1 &&& (2147483647 : Int32)) % (5 : Int32)), vi pr, vr b11, vr b225, .unset, vi dd, vi ch] [(.int 65533), (.int 1), (.ref b235), (.ref b235)])) rfl rfl (hb hby at_454)
           have V241 : Arv Z h241 b235 c235 .char (3 : Int32) [(.int pr), (.int 65533), (.int 0)] (.int 0) := by
             have q := Arv.set Ar239 q239 Sz239 Nn239 Hs239 Gf239 (fits_nar_char _) W241 1 rfl (Nat.le_of_ble_eq_true rfl)
             first | exact q | (simp only [own_fd] at q; exact q)
           have N241 := Fr.snoc X241 N238 g_b235
           have O241 := O238.wr W241 g_b235
           have K241 := K238.wr W241 (Or.inr s_b235)
           obtain ⟨cl242, Ar242, q242, Sz242, Nn242, Hs242, Gf242⟩ := id V241
           have hin243 := inb_of (j := 2) Sz242 ⟨by decide, by decide⟩
           obtain ⟨T244, h244, X244, e244, W244, st244⟩ := stC X241 hx hZ e241 Ar242 (j := 2) hin243 (g := (mkF m 459 #[vi p0, vi p1, vi p2, vi p3, vi p4, vi ((p1 &&& (2147483647 : Int32)) % (5 : Int32)), vi pr, vr b11, vr b225, .unset, vi dd, vi ch] [(.int ch), (.int 2), (.ref b235), (.ref b235)])) rfl rfl (hb hby at_459)
           have V244 : Arv Z h244 b235 c235 .char (3 : Int32) [(.int pr), (.int 65533), (.int ch)] (.int 0) := by
             have q := Arv.set Ar242 q242 Sz242 Nn242 Hs242 Gf242 (fits_nar_char _) W244 2 rfl (Nat.le_of_ble_eq_true rfl)
             first | exact q | (simp only [nc_ch] at q; exact q)
           have N244 := Fr.snoc X244 N241 g_b235
           have O244 := O241.wr W244 g_b235
           have K244 := K241.wr W244 (Or.inr s_b235)
           obtain ⟨T245, h245, X245, e245, E245, A245, D245, -, st245⟩ := newO X244 hx hZ hown (Ba hw 14 rfl) (Ba hw 15 rfl) (Ba hw 16 rfl) e244 (g := (mkF m 462 #[vi p0, vi p1, vi p2, vi p3, vi p4, vi ((p1 &&& (2147483647 : Int32)) % (5 : Int32)), vi pr, vr b11, vr b225, vr b235, vi dd, vi ch] [])) rfl (hb hby at_462) (by decide) (by decide)
           obtain ⟨b245, g245⟩ : ∃ z, z = h244.size := ⟨_, rfl⟩
           rw [← g245] at A245 D245 st245
           have O245 := O244.ext E245
           have g_b245 : n0 ≤ b245 := Nat.le_trans (Nat.le_of_eq O244.1.symm) (Nat.le_trans O244.2.1 (Nat.le_of_eq g245.symm))
           have s_b245 : h0.size ≤ b245 := Nat.le_trans K244.1 (Nat.le_of_eq g245.symm)
           have K245 := K244.ext E245
           have lt_b245 := A245.lt
           have F245_status : Fld Z h245 b245 "com/example/attenuation/attenuation/core/Outcome" "status" "Lcom/example/attenuation/attenuation/core/Outcome$Status;" .null := D245 (Or.inr (Ba hw 41 rfl)) (ty := (.object "com/example/attenuation/attenuation/core/Outcome$Status")) (by decide)
           have F245_body : Fld Z h245 b245 "com/example/attenuation/attenuation/core/Outcome" "body" "[B" .null := D245 (Or.inr (Ba hw 43 rfl)) (ty := (.array .byte)) (by decide)
           have k246 : Ab p e below m s₁ #[(.int p0), (.int p1), (.int p2), (.int p3), (.int p4)] maxLocals T245 470 #[vi p0, vi p1, vi p2, vi p3, vi p4, vi ((p1 &&& (2147483647 : Int32)) % (5 : Int32)), vi pr, vr b11, vr b225, vr b235, vi dd, vi ch] [(.ref b225), (.ref b11), (.ref b245), (.ref b245)] := by
            intro t k
            refine k224 t ?_
            refine Pa X224 hx hby at_412 rfl ?_
            refine XS.bipush X224.here hx rfl (hb hby at_413) ?_
            refine XS.iand X224.here hx rfl (hb hby at_415) rfl ?_
            refine XS.i2c X224.here hx rfl (hb hby at_416) rfl ?_
            show Za p e below m T224 417 #[vi p0, vi p1, vi p2, vi p3, vi p4, vi ((p1 &&& (2147483647 : Int32)) % (5 : Int32)), vi pr, vr b11, .unset, .unset, vi dd, .unset] [(.int ((p0 &&& (127 : Int32)).toUInt32.toUInt16.toUInt32.toInt32))] t
            rw [← hch]
            refine XS.istore X224.here hx rfl (hb hby at_417) rfl (l' := #[vi p0, vi p1, vi p2, vi p3, vi p4, vi ((p1 &&& (2147483647 : Int32)) % (5 : Int32)), vi pr, vr b11, .unset, .unset, vi dd, vi ch]) rfl ?_
            refine XS.iconst X224.here hx rfl (hb hby at_419) ?_
            refine st225 _ ?_
            refine XS.dup X225.here hx rfl (hb hby at_422) rfl rfl ?_
            refine XS.iconst X225.here hx rfl (hb hby at_423) ?_
            refine Wa X225 hx hby at_424 rfl ?_
            refine XS.i2b X225.here hx rfl (hb hby at_426) rfl ?_
            show Za p e below m T225 427 #[vi p0, vi p1, vi p2, vi p3, vi p4, vi ((p1 &&& (2147483647 : Int32)) % (5 : Int32)), vi pr, vr b11, .unset, .unset, vi dd, vi ch] [(.int (pr.toInt8.toInt32)), (.int 0), (.ref b225), (.ref b225)] t
            rw [a_pr]
            refine st228 _ ?_
            refine XS.dup X228.here hx rfl (hb hby at_428) rfl rfl ?_
            refine XS.iconst X228.here hx rfl (hb hby at_429) ?_
            refine Wa X228 hx hby at_430 rfl ?_
            refine XS.i2b X228.here hx rfl (hb hby at_432) rfl ?_
            refine st231 _ ?_
            refine XS.dup X231.here hx rfl (hb hby at_434) rfl rfl ?_
            refine XS.iconst X231.here hx rfl (hb hby at_435) ?_
            refine Wa X231 hx hby at_436 rfl ?_
            refine XS.i2b X231.here hx rfl (hb hby at_438) rfl ?_
            show Za p e below m T231 439 #[vi p0, vi p1, vi p2, vi p3, vi p4, vi ((p1 &&& (2147483647 : Int32)) % (5 : Int32)), vi pr, vr b11, .unset, .unset, vi dd, vi ch] [(.int (ch.toInt8.toInt32)), (.int 2), (.ref b225), (.ref b225)] t
            rw [a_ch]
            refine st234 _ ?_
            refine XS.astore X234.here hx rfl (hb hby at_440) rfl rfl (l' := #[vi p0, vi p1, vi p2, vi p3, vi p4, vi ((p1 &&& (2147483647 : Int32)) % (5 : Int32)), vi pr, vr b11, vr b225, .unset, vi dd, vi ch]) rfl ?_
            refine XS.iconst X234.here hx rfl (hb hby at_442) ?_
            refine st235 _ ?_
            refine XS.dup X235.here hx rfl (hb hby at_445) rfl rfl ?_
            refine XS.iconst X235.here hx rfl (hb hby at_446) ?_
            refine Wa X235 hx hby at_447 rfl ?_
            refine st238 _ ?_
            refine XS.dup X238.here hx rfl (hb hby at_450) rfl rfl ?_
            refine XS.iconst X238.here hx rfl (hb hby at_451) ?_
            refine X238.ldcI hx hown (mvT hZ (Ba hw 192 rfl)) rfl (hb hby at_452) ?_
            show Za p e below m T238 454 #[vi p0, vi p1, vi p2, vi p3, vi p4, vi ((p1 &&& (2147483647 : Int32)) % (5 : Int32)), vi pr, vr b11, vr b225, .unset, vi dd, vi ch] [(.int 65533), (.int 1), (.ref b235), (.ref b235)] t
            refine st241 _ ?_
            refine XS.dup X241.here hx rfl (hb hby at_455) rfl rfl ?_
            refine XS.iconst X241.here hx rfl (hb hby at_456) ?_
            refine Wa X241 hx hby at_457 rfl ?_
            refine st244 _ ?_
            refine XS.astore X244.here hx rfl (hb hby at_460) rfl rfl (l' := #[vi p0, vi p1, vi p2, vi p3, vi p4, vi ((p1 &&& (2147483647 : Int32)) % (5 : Int32)), vi pr, vr b11, vr b225, vr b235, vi dd, vi ch]) rfl ?_
            refine st245 _ ?_
            refine XS.dup X245.here hx rfl (hb hby at_465) rfl rfl ?_
            refine Dd X245 hx hby at_466 rfl rfl ?_
            refine Dd X245 hx hby at_468 rfl rfl ?_
            exact k
           obtain ⟨_, _, ⟨T247, L247, k247, n247⟩, -, X247, hS247, hg247, ⟨Lc247, hQ247, l247, y247, z247⟩, st247⟩ := X245.specialBackS hx (y := Rba) rfl hown (mvT hZ (Ba hw 17 rfl)) (mvT hZ (Ba hw 18 rfl)) (mvT hZ (Ba hw 19 rfl)) (by decide) (backOfS (W := 1) (Zwa l Z a0 hw [] b245 b11 b225 _ _ _ _ _ _ _ _ _ h245 n0 O245 hE F245_status F245_body A245 g_b245 ) hZ (Ba hw 19 rfl) (Ba hw 16 rfl) (by decide) (by decide)) (g := (mkF m 470 #[vi p0, vi p1, vi p2, vi p3, vi p4, vi ((p1 &&& (2147483647 : Int32)) % (5 : Int32)), vi pr, vr b11, vr b225, vr b235, vi dd, vi ch] [(.ref b225), (.ref b11), (.ref b245), (.ref b245)])) rfl (by rw [hml]; rfl) (Steps.refl _) (a := b245) (argsL := [(.ref b11), (.ref b225)]) (rest := [(.ref b245)]) (lenOf Uc rfl) rfl (by show 2 * 0 + _ ≤ _; exact Nat.le_of_eq rfl) (hb hby at_470) (fun _ _ => ⟨rfl, e245, (by decide : 3 + 4 ≤ _), (by decide : 8 + 48 ≤ _)⟩)
           dsimp only [Pt.U, Pt.locs, Pt.cells, Pt.slots] at X247 l247 y247 z247 st247 hQ247 hS247 hg247
           subst l247 y247 z247
           obtain ⟨X247, hS, hZ, hown⟩ := rebS hS (by rw [e245]; exact (Nat.le_trans (Nat.le_trans (Nat.le_trans (Nat.le_trans (Nat.le_trans (Nat.le_trans (Nat.le_trans (Nat.le_trans (Nat.le_trans hk224 E225.1) (Keep.of_wr W228).1) (Keep.of_wr W231).1) (Keep.of_wr W234).1) E235.1) (Keep.of_wr W238).1) (Keep.of_wr W241).1) (Keep.of_wr W244).1) E245.1)) X247 hS247 hg247 hZ hown
           obtain ⟨rfl, N247q, O247, Kc247, Ex247, G247_0, G247_1⟩ := hQ247
           have N247 := Fr.app N244 N247q
           have K247 := K245.trans Kc247 (allS (Or.inr s_b245) all0)
           have ne248 : ¬ (b225 = b235) := (Nat.ne_of_lt (Nat.lt_of_lt_of_le (Nat.lt_of_lt_of_le (Nat.lt_of_lt_of_le (Nat.lt_of_lt_of_le lt_b225 (Keep.of_wr W228).1) (Keep.of_wr W231).1) (Keep.of_wr W234).1) (Nat.le_of_eq g235.symm)))
           have ne249 : ¬ (b225 = b245) := (Nat.ne_of_lt (Nat.lt_of_lt_of_le (Nat.lt_of_lt_of_le (Nat.lt_of_lt_of_le (Nat.lt_of_lt_of_le (Nat.lt_of_lt_of_le (Nat.lt_of_lt_of_le (Nat.lt_of_lt_of_le (Nat.lt_of_lt_of_le lt_b225 (Keep.of_wr W228).1) (Keep.of_wr W231).1) (Keep.of_wr W234).1) E235.1) (Keep.of_wr W238).1) (Keep.of_wr W241).1) (Keep.of_wr W244).1) (Nat.le_of_eq g245.symm)))
           have f250 := ((((((V234.ext E235).other W238 ne248).other W241 ne248).other W244 ne248).ext E245).keep Kc247 (fun q => ne249 (List.mem_singleton.mp q)))
           have f251 := (((((((((Ex225.wr W228).wr W231).wr W234).ext E235).wr W238).wr W241).wr W244).ext E245).keep Kc247)
           obtain ⟨v252, T252, Lc252, X252, hQ252, st252⟩ := Z6 X247 hx hZ hown (a := b245) (Vab l Z a0 hw [] b245 b225 c225 pr (dd.toInt8.toInt32) ch _ _ _ _ _ _ _ _ _ T247.heap n0 O247 hE G247_1 Ex247 f250 f251 nn_pr r_dd.1 r_dd.2.1 r_dd.2.2.1 r_dd.2.2.2.1 r_dd.2.2.2.2 nn_ch) (Ba hw 44 rfl) (Ba hw 45 rfl) (Ba hw 47 rfl) (Ba hw 46 rfl) (notFace_of_selects (args := #[]) (mvT hZ (Ba hw 47 rfl))) (Ba hw 16 rfl) (Ba hw 48 rfl) rfl Ex247 (g := (mkF m 473 #[vi p0, vi p1, vi p2, vi p3, vi p4, vi ((p1 &&& (2147483647 : Int32)) % (5 : Int32)), vi pr, vr b11, vr b225, vr b235, vi dd, vi ch] [(.ref b245)])) rfl (by rw [hml]; rfl) (argsL := []) (rest := []) rfl (lenOf Dm rfl) rfl (W := 0) (by show 2 * 0 + _ ≤ _; exact Nat.le_of_eq rfl) (hb hby at_473) (by decide) (by decide) (by decide) (by decide) (by decide)
           obtain ⟨s252, b252, k252, rfl, N252q, O252, Kc252, g_s252, gs_s252, g_b252, gs_b252, ne_s_b252, F252_0, F252_1, F252_2, F252_3⟩ := hQ252
           have N252 := Fr.app N247 N252q
           have K252 := K247.trans Kc252 (fun x hx => nomatch hx)
           have s_s252 := Nat.le_trans K247.1 gs_s252
           have s_b252 := Nat.le_trans K247.1 gs_b252
           have lt_s252 := F252_0.lt
           have lt_b252 := F252_3.lt
           obtain ⟨T253, h253, X253, e253, E253, A253, D253, -, st253⟩ := newO X252 hx hZ hown (Ba hw 158 rfl) (Ba hw 30 rfl) (Ba hw 29 rfl) rfl (g := (mkF m 478 #[vi p0, vi p1, vi p2, vi p3, vi p4, vi ((p1 &&& (2147483647 : Int32)) % (5 : Int32)), vi pr, vr b11, vr b225, vr b235, vr s252, vi ch] [])) rfl (hb hby at_478) (by decide) (by decide)
           obtain ⟨b253, g253⟩ : ∃ z, z = T252.heap.size := ⟨_, rfl⟩
           rw [← g253] at A253 D253 st253
           have O253 := O252.ext E253
           have g_b253 : n0 ≤ b253 := Nat.le_trans (Nat.le_of_eq O252.1.symm) (Nat.le_trans O252.2.1 (Nat.le_of_eq g253.symm))
           have s_b253 : h0.size ≤ b253 := Nat.le_trans K252.1 (Nat.le_of_eq g253.symm)
           have K253 := K252.ext E253
           have lt_b253 := A253.lt
           have F253_value : Fld Z h253 b253 "java/lang/String" "value" "[B" .null := D253 (Or.inr (Ba hw 31 rfl)) (ty := (.array .byte)) (by decide)
           have F253_coder : Fld Z h253 b253 "java/lang/String" "coder" "B" (.int 0) := D253 (Or.inr (Ba hw 32 rfl)) (ty := .byte) (by decide)
           have ne254 : ¬ (b235 = b253) := (Nat.ne_of_lt (Nat.lt_of_lt_of_le (Nat.lt_of_lt_of_le (Nat.lt_of_lt_of_le (Nat.lt_of_lt_of_le (Nat.lt_of_lt_of_le (Nat.lt_of_lt_of_le (Nat.lt_of_lt_of_le lt_b235 (Keep.of_wr W238).1) (Keep.of_wr W241).1) (Keep.of_wr W244).1) E245.1) Kc247.1) Kc252.1) (Nat.le_of_eq g253.symm)))
           have ne255 : ¬ (b235 = b245) := (Nat.ne_of_lt (Nat.lt_of_lt_of_le (Nat.lt_of_lt_of_le (Nat.lt_of_lt_of_le (Nat.lt_of_lt_of_le lt_b235 (Keep.of_wr W238).1) (Keep.of_wr W241).1) (Keep.of_wr W244).1) (Nat.le_of_eq g245.symm)))
           have f256 := ((((V244.ext E245).keep Kc247 (fun q => ne255 (List.mem_singleton.mp q))).keep Kc252 List.not_mem_nil).ext E253)
           obtain ⟨v257, T257, Lc257, X257, hQ257, st257⟩ := G1 X253 hx hZ hown (a := b253) (Z1a l Z a0 hw [] b253 b235 c235 pr (65533 : Int32) ch _ _ _ _ _ _ _ _ _ h253 n0 O253 hE f256 A253 F253_value F253_coder g_b253 ne254 le_pr (by decide) nn_pr hh_pr (by decide) (by decide) nn_ch hh_ch) (Ba hw 159 rfl) (Ba hw 160 rfl) (Ba hw 29 rfl) (Ba hw 161 rfl) e253 (g := (mkF m 484 #[vi p0, vi p1, vi p2, vi p3, vi p4, vi ((p1 &&& (2147483647 : Int32)) % (5 : Int32)), vi pr, vr b11, vr b225, vr b235, vr s252, vi ch] [(.ref b235), (.ref b253), (.ref b253)])) rfl (by rw [hml]; rfl) (argsL := [(.ref b235)]) (rest := [(.ref b253)]) rfl (lenOf Gca rfl) rfl (W := 1) (by show 2 * 0 + _ ≤ _; exact Nat.le_of_eq rfl) (hb hby at_484) (by decide) (by decide) (by decide) (by decide) rfl (by decide)
           obtain ⟨b257, k257, rfl, N257q, O257, Kc257, g_b257, gs_b257, F257_0, F257_1, F257_2, F257_3⟩ := hQ257
           have N257 := Fr.app N252 N257q
           have K257 := K253.trans Kc257 (allS (Or.inr s_b253) all0)
           have s_b257 := Nat.le_trans K253.1 gs_b257
           have lt_b257 := F257_3.lt
           have ne258 : ¬ (b253 = s252) := (Ne.symm (Nat.ne_of_lt (Nat.lt_of_lt_of_le lt_s252 (Nat.le_of_eq g253.symm))))
           have f259 := ((F252_0.ext E253).keep Kc257)
           have f260 := ((F252_1.ext E253).keep Kc257 (fun q => (Ne.symm ne258) (List.mem_singleton.mp q)))
           have f261 := ((F252_2.ext E253).keep Kc257 (fun q => (Ne.symm ne258) (List.mem_singleton.mp q)))
           have ne262 : ¬ (b252 = b253) := (Nat.ne_of_lt (Nat.lt_of_lt_of_le lt_b252 (Nat.le_of_eq g253.symm)))
           have f263 := ((F252_3.ext E253).keep Kc257 (fun q => ne262 (List.mem_singleton.mp q)))
           obtain ⟨v264, T264, Lc264, X264, hQ264, st264⟩ := Z6 X257 hx hZ hown (a := b253) (K5a l Z a0 hw [] b253 s252 b257 b252 k257 k252 ((pr >>> ((0 : Int32) &&& 31)).toInt8.toInt32) ((pr >>> ((8 : Int32) &&& 31)).toInt8.toInt32) (((65533 : Int32) >>> ((0 : Int32) &&& 31)).toInt8.toInt32) (((65533 : Int32) >>> ((8 : Int32) &&& 31)).toInt8.toInt32) ((ch >>> ((0 : Int32) &&& 31)).toInt8.toInt32) ((ch >>> ((8 : Int32) &&& 31)).toInt8.toInt32) (((pr &&& (255 : Int32)) >>> ((0 : Int32) &&& 31)).toInt8.toInt32) (((pr &&& (255 : Int32)) >>> ((8 : Int32) &&& 31)).toInt8.toInt32) (((65533 : Int32) >>> ((0 : Int32) &&& 31)).toInt8.toInt32) (((65533 : Int32) >>> ((8 : Int32) &&& 31)).toInt8.toInt32) (((ch.toUInt32.toUInt16.toUInt32.toInt32) >>> ((0 : Int32) &&& 31)).toInt8.toInt32) (((ch.toUInt32.toUInt16.toUInt32.toInt32) >>> ((8 : Int32) &&& 31)).toInt8.toInt32) _ _ _ _ _ _ _ _ _ T257.heap n0 O257 hE F257_0 F257_1 F257_2 F257_3 f259 f260 f261 f263 ne258 (by rw [pp_pr]) (by rw [pp_pr]) rfl rfl (by rw [M4a]) (by rw [M4a])) (Ba hw 181 rfl) (Ba hw 182 rfl) (Ba hw 184 rfl) (Ba hw 183 rfl) (notFace_of_selects (args := #[]) (mvT hZ (Ba hw 184 rfl))) (Ba hw 29 rfl) (Ba hw 185 rfl) rfl F257_0 (g := (mkF m 489 #[vi p0, vi p1, vi p2, vi p3, vi p4, vi ((p1 &&& (2147483647 : Int32)) % (5 : Int32)), vi pr, vr b11, vr b225, vr b235, vr s252, vi ch] [(.ref s252), (.ref b253)])) rfl (by rw [hml]; rfl) (argsL := [(.ref s252)]) (rest := []) rfl (lenOf Dl rfl) rfl (W := 0) (by show 2 * 0 + _ ≤ _; exact Nat.le_of_eq rfl) (hb hby at_489) (by decide) (by decide) (by decide) (by decide) (by decide)
           obtain ⟨rfl, N264q, hp264⟩ := hQ264
           have N264 := Fr.app N257 N264q
           have k265 : Ab p e below m s₁ #[(.int p0), (.int p1), (.int p2), (.int p3), (.int p4)] maxLocals T264 492 #[vi p0, vi p1, vi p2, vi p3, vi p4, vi ((p1 &&& (2147483647 : Int32)) % (5 : Int32)), vi pr, vr b11, vr b225, vr b235, vr s252, vi ch] [(.int 1)] := by
            intro t k
            refine k246 t ?_
            refine st247.trans ?_
            refine st252 _ ?_
            refine XS.astore X252.here hx rfl (hb hby at_476) rfl rfl (l' := #[vi p0, vi p1, vi p2, vi p3, vi p4, vi ((p1 &&& (2147483647 : Int32)) % (5 : Int32)), vi pr, vr b11, vr b225, vr b235, vr s252, vi ch]) rfl ?_
            refine st253 _ ?_
            refine XS.dup X253.here hx rfl (hb hby at_481) rfl rfl ?_
            refine Dd X253 hx hby at_482 rfl rfl ?_
            refine st257 _ ?_
            refine Dd X257 hx hby at_487 rfl rfl ?_
            refine st264 _ ?_
            exact k
           obtain ⟨fs, hr, hrun, hended, hRW⟩ := X264.leaveW hS (by rw [hp264]; exact (Nat.le_trans (Nat.le_trans (Nat.le_trans (Nat.le_refl _) Kc252.1) E253.1) Kc257.1)) (v := some (.int 1)) (fun h => by rw [Bd.returns] at h; cases h)
           refine hNG ⟨_, _, k265 _ ?_, hrun, hended, _, _, rfl, ?_, hRW.1, hRW.2.1, hRW.2.2.1, hRW.2.2.2.mono (by decide) (by decide)⟩
           · exact retN X264 hx (t := .boolean) Bd.returns (by simp) (hb hby at_492) hr
           · show Lxa Z p0 p1 p2 p3 p4 Ra Ya Ia Ua Ka Ga Ma Da Aa h0 n0 _ T264.heap _
             rw [hp264]
             exact ⟨rfl, N264⟩
         have k266 : Ab p e below m s₁ #[(.int p0), (.int p1), (.int p2), (.int p3), (.int p4)] maxLocals T11 384 #[vi p0, vi p1, vi p2, vi p3, vi p4, vi ((p1 &&& (2147483647 : Int32)) % (5 : Int32)), vi pr, vr b11, .unset, .unset, .unset, .unset] [(.int (p4 &&& (64 : Int32)))] := by
          intro t k
          refine k223 t ?_
          refine Wa X11 hx hby at_379 rfl ?_
          refine XS.bipush X11.here hx rfl (hb hby at_381) ?_
          refine XS.iand X11.here hx rfl (hb hby at_383) rfl ?_
          exact k
         by_cases hc267 : (p4 &&& (64 : Int32)) = (0 : Int32)
         · have k268 : Ab p e below m s₁ #[(.int p0), (.int p1), (.int p2), (.int p3), (.int p4)] maxLocals T11 412 #[vi p0, vi p1, vi p2, vi p3, vi p4, vi ((p1 &&& (2147483647 : Int32)) % (5 : Int32)), vi pr, vr b11, .unset, .unset, vi ((128 : Int32) + (p4 &&& (63 : Int32))), .unset] [] := by
            intro t k
            refine k266 t ?_
            refine XS.ifYes X11.here hx rfl (pc0 := 384) (pc' := 401) rfl (hb hby at_384) rfl ((if0 _ _).trans (teq hc267).1) (by decide) (by decide) ?_
            refine XS.sipush X11.here hx rfl (hb hby at_401) ?_
            refine Wa X11 hx hby at_404 rfl ?_
            refine XS.bipush X11.here hx rfl (hb hby at_406) ?_
            refine XS.iand X11.here hx rfl (hb hby at_408) rfl ?_
            refine XS.iadd X11.here hx rfl (hb hby at_409) rfl ?_
            refine XS.istore X11.here hx rfl (hb hby at_410) rfl (l' := #[vi p0, vi p1, vi p2, vi p3, vi p4, vi ((p1 &&& (2147483647 : Int32)) % (5 : Int32)), vi pr, vr b11, .unset, .unset, vi ((128 : Int32) + (p4 &&& (63 : Int32))), .unset]) rfl ?_
            exact k
           exact J224 s.vm _ _ _ T11.heap ((128 : Int32) + (p4 &&& (63 : Int32))) hS (Nat.le_trans (Nat.zero_le _) Kc11.1) hZ hown (X11.more (by decide) (by decide)) rfl N11 O11 K11 (Hbb p4) k268
         · have k269 : Ab p e below m s₁ #[(.int p0), (.int p1), (.int p2), (.int p3), (.int p4)] maxLocals T11 412 #[vi p0, vi p1, vi p2, vi p3, vi p4, vi ((p1 &&& (2147483647 : Int32)) % (5 : Int32)), vi pr, vr b11, .unset, .unset, vi ((248 : Int32) + (p4 &&& (7 : Int32))), .unset] [] := by
            intro t k
            refine k266 t ?_
            refine XS.ifNo X11.here hx rfl (hb hby at_384) rfl ((if0 _ _).trans (feq hc267).1) ?_
            refine XS.sipush X11.here hx rfl (hb hby at_387) ?_
            refine Wa X11 hx hby at_390 rfl ?_
            refine XS.bipush X11.here hx rfl (hb hby at_392) ?_
            refine XS.iand X11.here hx rfl (hb hby at_394) rfl ?_
            refine XS.iadd X11.here hx rfl (hb hby at_395) rfl ?_
            refine XS.istore X11.here hx rfl (hb hby at_396) rfl (l' := #[vi p0, vi p1, vi p2, vi p3, vi p4, vi ((p1 &&& (2147483647 : Int32)) % (5 : Int32)), vi pr, vr b11, .unset, .unset, vi ((248 : Int32) + (p4 &&& (7 : Int32))), .unset]) rfl ?_
            refine XS.goto X11.here hx rfl (pc0 := 398) (pc' := 412) rfl (hb hby at_398) (by decide) (by decide) ?_
            exact k
           exact J224 s.vm _ _ _ T11.heap ((248 : Int32) + (p4 &&& (7 : Int32))) hS (Nat.le_trans (Nat.zero_le _) Kc11.1) hZ hown (X11.more (by decide) (by decide)) rfl N11 O11 K11 (Gbb p4) k269
set_option maxRecDepth 65536 in
set_option maxHeartbeats 40000000 in
theorem comes_1 {Post : Tables → Env → Array Value → State → Outcome → State → Prop} (hpost : ∀ tb e args s v u, (limb_1_1.after args s (.returned v) u = true ∧ limb_1_2.after args s (.returned v) u = true ∧ True) → ReturnedEndW s (.returned v) u (Jvm.fieldLocs frame_1_writes args s ++ Jvm.arrayLocs frame_1_arrays args s ++ Jvm.staticLocs frame_1_statics s) 32 2240 → Post tb e args s (.returned v) u) :
   ArmFor flags0 classFile x code maxLocals ret World_1 tables_1 room_1 Calls_1 rest_1 Pre_1 Post := by
 intro l hfl _ _ p e ha hc hk s m args below hf hA hF happ hP
 obtain ⟨hcalls, hrest, hpre⟩ := hP
 obtain ⟨-, -, -, hnamed, -, -, -, hat⟩ := (Spec.applies_iff hf).mp happ
 obtain ⟨hg, hn⟩ := and_e (Cond.before_iff.mp (show (Jvm.Cond.and given_1 narrow_1).before args s = true from hpre))
 obtain ⟨g0a, g0b⟩ := and_e hg
 obtain ⟨g1a, g1b⟩ := and_e g0b
 obtain ⟨g2a, g2b⟩ := and_e g1b
 obtain ⟨g3a, g3b⟩ := and_e g2b
 obtain ⟨g4a, g4b⟩ := and_e g3b
 obtain ⟨w0, w1, w2, w3, w4, rfl⟩ : ∃ w0 w1 w2 w3 w4 : Value, args = #[w0, w1, w2, w3, w4] := by
   have hs : args.size = 5 := by simpa [Cond.value, given_1] using g0a
   obtain ⟨L⟩ := args
   match L, hs with
   | [w0, w1, w2, w3, w4], _ => exact ⟨w0, w1, w2, w3, w4, rfl⟩
 have hw := fun d (hd : d ∈ tables_1) => atoms_spec (ws := Jvm.Cond.code x code maxLocals ret :: tables_1) hat d (List.mem_cons_of_mem _ hd)
 have hfit : Fit s := fun {y c} hc i hi => by
   obtain ⟨ha, rfl⟩ := Array.getElem?_eq_some_iff.mp hc
   have q := List.all_eq_true.mp ((Array.all_eq_true_iff_forall_mem.mp hF) _ (Array.getElem_mem ha)) i (List.mem_range.mpr hi)
   simpa [Array.getElem?_eq_getElem hi] using q
 obtain ⟨hsets, hown0⟩ := atoms_of _ (rest_1_c_eq ▸ (show rest_1_c.before _ s = true from hrest))
 obtain ⟨i0, ei0⟩ := is_v g1a
 obtain rfl : w0 = (.int i0) := Option.some.inj ei0
 obtain ⟨i1, ei1⟩ := is_v g2a
 obtain rfl : w1 = (.int i1) := Option.some.inj ei1
 obtain ⟨i2, ei2⟩ := is_v g3a
 obtain rfl : w2 = (.int i2) := Option.some.inj ei2
 obtain ⟨i3, ei3⟩ := is_v g4a
 obtain rfl : w3 = (.int i3) := Option.some.inj ei3
 obtain ⟨i4, ei4⟩ := is_v g4b
 obtain rfl : w4 = (.int i4) := Option.some.inj ei4
 obtain ⟨hn1a, hn1b⟩ := and_e hn
 obtain ⟨hn2a, hn2b⟩ := and_e hn1b
 obtain ⟨hn3a, hn3b⟩ := and_e hn2b
 obtain ⟨hn4a, hn4b⟩ := and_e hn3b
 obtain ⟨Ra, Y0a⟩ := exa_v hn1a
 have I0a := Sta.start Y0a (Or.inr ⟨(Ba hw 6 rfl), (Ba hw 7 rfl)⟩)
 have K0a := Exa.start Y0a hn1a
 obtain ⟨Ya, M2a⟩ := exa_v hn2a
 have D2a := Sta.start M2a (Or.inr ⟨(Ba hw 6 rfl), (Ba hw 191 rfl)⟩)
 have G2a := Exa.start M2a hn2a
 obtain ⟨Ia, Hwa⟩ := exa_v hn3a
 have Pqa := Sta.start Hwa (Or.inr ⟨(Ba hw 6 rfl), (Ba hw 195 rfl)⟩)
 have Rqa := Exa.start Hwa hn3a
 obtain ⟨Ua, Z0a⟩ := exa_v hn4a
 have L0a := Sta.start Z0a (Or.inr ⟨(Ba hw 6 rfl), (Ba hw 203 rfl)⟩)
 have M0a := Exa.start Z0a hn4a
 obtain ⟨Ka, Iwa⟩ := exa_v hn4b
 have Uqa := Sta.start Iwa (Or.inr ⟨(Ba hw 6 rfl), (Ba hw 205 rfl)⟩)
 have Vqa := Exa.start Iwa hn4b
 obtain ⟨Ga, Bza⟩ := exa_v (Cond.before_iff.mp (hsets _ (List.mem_of_getElem? (i := 5) rfl)))
 have H5 := Sta.start Bza (Or.inr ⟨(Ba hw 51 rfl), hsets _ (List.mem_of_getElem? (i := 0) rfl)⟩)
 have G5 := Exa.start Bza (Cond.before_iff.mp (hsets _ (List.mem_of_getElem? (i := 5) rfl)))
 obtain ⟨Ma, Gwa⟩ := exa_v (Cond.before_iff.mp (hsets _ (List.mem_of_getElem? (i := 8) rfl)))
 have Po := Sta.start Gwa (Or.inr ⟨(Ba hw 66 rfl), hsets _ (List.mem_of_getElem? (i := 2) rfl)⟩)
 have P4a := Exa.start Gwa (Cond.before_iff.mp (hsets _ (List.mem_of_getElem? (i := 8) rfl)))
 obtain ⟨Da, Wba⟩ := is_v (Cond.before_iff.mp (hsets _ (List.mem_of_getElem? (i := 10) rfl)))
 have Vc := Sta.start Wba (Or.inl (hsets _ (List.mem_of_getElem? (i := 9) rfl)))
 have Mc := B8a Wba (Cond.before_iff.mp (hsets _ (List.mem_of_getElem? (i := 11) rfl)))
 obtain ⟨Aa, Mxa, Pxa⟩ := isR_v (Cond.before_iff.mp (hsets _ (List.mem_of_getElem? (i := 17) rfl)))
 have Mo := Sta.start Mxa (Or.inl (hsets _ (List.mem_of_getElem? (i := 16) rfl)))
 have Bo := Pxa
 have Dc := Sta.start (Dza (Cond.before_iff.mp (hsets _ (List.mem_of_getElem? (i := 21) rfl)))) (Or.inr ⟨(Ba hw 87 rfl), hsets _ (List.mem_of_getElem? (i := 19) rfl)⟩)
 have Id := Sta.start (Dza (Cond.before_iff.mp (hsets _ (List.mem_of_getElem? (i := 24) rfl)))) (Or.inr ⟨(Ba hw 87 rfl), hsets _ (List.mem_of_getElem? (i := 22) rfl)⟩)
 have Kd := Sta.start (Dza (Cond.before_iff.mp (hsets _ (List.mem_of_getElem? (i := 27) rfl)))) (Or.inr ⟨(Ba hw 87 rfl), hsets _ (List.mem_of_getElem? (i := 25) rfl)⟩)
 have eq_UTF_8_INSTANCE := (Value.ref.inj (Option.some.inj (Bza.symm.trans (D8a (Cond.before_iff.mp (hsets _ (List.mem_of_getElem? (i := 4) rfl))) Gwa))) : Ga = Ma)
 obtain ⟨n, o, h1, h2, h3, _, L, rfl, ⟨rfl, N⟩, hq⟩ := rm_law l s _ hw tables_1 i0 i1 i2 i3 i4 Ra Ya Ia Ua Ka Ga Ma Da Aa s.heap s.heap.size (Old.start s) ⟨I0a, K0a, D2a, G2a, Pqa, Rqa, L0a, M0a, Uqa, Vqa, H5, G5, Po, P4a, Vc, Mc, Mo, Bo, Dc, Id, Kd, eq_UTF_8_INSTANCE⟩  p e ha hc hk s m _ below hf ((Spec.applies_iff_loose hf).mp happ).1 ⟨rfl, State.Warmed39.refl s, rfl⟩ trivial
 refine ⟨n, _, h1, h2, h3, hpost _ _ _ _ _ _ ⟨Cond.after_iff.mpr rfl, Cond.after_iff.mpr (eq_i res_at (Term.int_eval (1)) rfl), trivial⟩ ⟨hq.1, hq.2.1, hq.2.2.1, (hq.2.2.2.sift fun y hy => Or.inr (N y hy)).mono (by decide) (by decide)⟩⟩
theorem main_1_1 : Claimed_1_1 := comes_1 fun _ _ _ _ _ _ h hF => ⟨h.1, hF⟩
theorem main_1_2 : Claimed_1_2 := comes_1 fun _ _ _ _ _ _ h hF => ⟨h.2.1, hF⟩
end Jvm.Pilot.@@N@@
namespace Jvm.Pilot.@@N@@
open Jvm Jvm.ClassFile Sem Op Lib Jvm.Free Jvm.Stand Jvm.Pilot.@@N@@.Jvm.D
/-! MADE BY PROGRAM (witnessworld.py) out of the Statement's table words and the real class files: 34 classes; the members and pool entries that the words name. The judged class is class 1, her method 2. -/
namespace start1
open Jvm.ClassFile
def u (s : String) : CpInfo := .utf8 (stringToUtf16 s)
/-- a pool by its gaps: so many unusable entries, then the entry; so many at the end -/
def gap : Nat → List CpInfo → List CpInfo
  | 0, r => r
  | n + 1, r => .unusable :: gap n r
def poolList (es : List (Nat × CpInfo)) (last : Nat) : List CpInfo := es.foldr (fun e r => gap e.1 (e.2 :: r)) (gap last [])
def pool (es : List (Nat × CpInfo)) (last : Nat) : Array CpInfo := ⟨poolList es last⟩
def fileOf (pool : Array CpInfo) (this : Nat) (attrs : Array Attribute := #[]) (ms : Array MethodInfo := #[]) (fl : Nat := 33) (sup : Nat := 0) (ifs : Array Nat := #[]) (fds : Array FieldInfo := #[]) : ClassFile where
  minorVersion := 0
  majorVersion := 65
  constantPool := pool
  accessFlags := fl
  thisClass := this
  superClass := sup
  interfaces := ifs
  fields := fds
  methods := ms
  attributes := attrs
def plain (name : String) (sup : Option ClassId) : Class where
  name := name
  kind := .ordinary
  loader := none
  accessFlags := 33
  super := sup
  interfaces := #[]
  cf := none
  fields := #[]
  methods := #[]
  instanceTypes := #[]
  staticTypes := #[]
  resolved := #[]
  callSites := []
  init := .initialized
  statics := none
  mirror := none

def pool0 : Array CpInfo := pool [(5, u "<init>"), (0, u "()V"), (1, .class_ 10), (1, u "java/lang/Object"), (85, u "clone"), (0, u "()Ljava/lang/Object;")] 26

def k0c0 : Code := { maxStack := 0, maxLocals := 1, code := object_method_1_code, exceptionTable := #[], attributes := #[] }
def k0m0 : Method := { name := "<init>", desc := "()V", sig := { parameters := [], returnType := none }, accessFlags := 1, code := some k0c0 }
def k0m1 : Method := { name := "clone", desc := "()Ljava/lang/Object;", sig := { parameters := [], returnType := some (.object "java/lang/Object") }, accessFlags := 260, code := none }
/-- java/lang/Object -/
def k0 : Class := { plain "java/lang/Object" none with
  accessFlags := 33
  interfaces := #[]
  cf := some (fileOf pool0 8 #[] #[{ accessFlags := 1, nameIndex := 5, descriptorIndex := 6, attributes := #[] }, { accessFlags := 260, nameIndex := 96, descriptorIndex := 97, attributes := #[] }] 33 0 #[] #[])
  fields := #[]
  methods := #[k0m0, k0m1]
  instanceTypes := #[]
  staticTypes := #[]
  resolved := Array.replicate 124 none
  statics := none }

def pool1 : Array CpInfo := pool [(2, .class_ 4), (1, u "java/lang/Object"), (0, u "<init>"), (0, u "()V"), (0, .integer 2147483647), (0, .fieldref 9 10), (0, .class_ 11), (0, .nameAndType 12 13), (0, u "com/example/attenuation/attenuation/core/Outcome$Status"), (0, u "DONE"), (0, u "Lcom/example/attenuation/attenuation/core/Outcome$Status;"), (0, .fieldref 9 15), (0, .nameAndType 16 13), (0, u "DENIED"), (0, .fieldref 9 18), (0, .nameAndType 19 13), (0, u "UNAVAILABLE"), (0, .fieldref 9 21), (0, .nameAndType 22 13), (0, u "FAILED"), (0, .fieldref 9 24), (0, .nameAndType 25 13), (0, u "UNREACHABLE"), (0, .methodref 27 28), (0, .class_ 29), (0, .nameAndType 30 31), (0, u "com/example/attenuation/attenuation/core/OutcomeTextPinLaw"), (0, u "status"), (0, u "(I)Lcom/example/attenuation/attenuation/core/Outcome$Status;"), (0, .integer 61440), (0, .integer 55296), (0, .integer 1048576), (0, .integer 65536), (0, .integer 56320), (0, .integer 65533), (0, .class_ 39), (0, u "com/example/attenuation/attenuation/core/Outcome"), (0, .methodref 38 41), (0, .nameAndType 5 42), (0, u "(Lcom/example/attenuation/attenuation/core/Outcome$Status;[B)V"), (0, .methodref 38 44), (0, .nameAndType 45 46), (0, u "text"), (0, u "()Ljava/lang/String;"), (0, .class_ 48), (0, u "java/lang/String"), (0, .methodref 47 50), (0, .nameAndType 5 51), (0, u "([C)V"), (0, .methodref 47 53), (0, .nameAndType 54 55), (0, u "equals"), (0, u "(Ljava/lang/Object;)Z"), (3, u "law"), (0, u "(IIIII)Z")] 8

def k1m0 : Method := { name := "<init>", desc := "()V", sig := { parameters := [], returnType := none }, accessFlags := 1, code := none }
def k1c1 : Code := { maxStack := 2, maxLocals := 2, code := method_2_code, exceptionTable := #[], attributes := #[] }
def k1m1 : Method := { name := "status", desc := "(I)Lcom/example/attenuation/attenuation/core/Outcome$Status;", sig := { parameters := [.int], returnType := some (.object "com/example/attenuation/attenuation/core/Outcome$Status") }, accessFlags := 10, code := some k1c1 }
def k1c2 : Code := { maxStack := 6, maxLocals := 12, code := code, exceptionTable := #[], attributes := #[] }
def k1m2 : Method := { name := "law", desc := "(IIIII)Z", sig := { parameters := [.int, .int, .int, .int, .int], returnType := some .boolean }, accessFlags := 9, code := some k1c2 }
/-- com/example/attenuation/attenuation/core/OutcomeTextPinLaw -/
def k1 : Class := { plain "com/example/attenuation/attenuation/core/OutcomeTextPinLaw" (some 0) with
  accessFlags := 49
  interfaces := #[]
  cf := some (fileOf pool1 27 #[] #[{ accessFlags := 1, nameIndex := 5, descriptorIndex := 6, attributes := #[] }, { accessFlags := 10, nameIndex := 30, descriptorIndex := 31, attributes := #[] }, { accessFlags := 9, nameIndex := 59, descriptorIndex := 60, attributes := #[] }] 49 2 #[] #[])
  fields := #[]
  methods := #[k1m0, k1m1, k1m2]
  instanceTypes := #[]
  staticTypes := #[]
  resolved := Array.replicate 69 none
  statics := none }

def pool2 : Array CpInfo := pool [(1, .class_ 2), (0, u "java/lang/constant/Constable"), (0, .class_ 4), (0, u "java/lang/Object")] 6

/-- java/lang/constant/Constable -/
def k2 : Class := { plain "java/lang/constant/Constable" (some 0) with
  accessFlags := 1537
  interfaces := #[]
  cf := some (fileOf pool2 1 #[] #[] 1537 3 #[] #[])
  fields := #[]
  methods := #[]
  instanceTypes := #[]
  staticTypes := #[]
  resolved := Array.replicate 11 none
  statics := none }

def pool3 : Array CpInfo := pool [(1, .class_ 2), (0, u "java/lang/Comparable"), (0, .class_ 4), (0, u "java/lang/Object")] 7

/-- java/lang/Comparable -/
def k3 : Class := { plain "java/lang/Comparable" (some 0) with
  accessFlags := 1537
  interfaces := #[]
  cf := some (fileOf pool3 1 #[] #[] 1537 3 #[] #[])
  fields := #[]
  methods := #[]
  instanceTypes := #[]
  staticTypes := #[]
  resolved := Array.replicate 12 none
  statics := none }

def pool4 : Array CpInfo := pool [(1, .class_ 2), (0, u "java/io/Serializable"), (0, .class_ 4), (0, u "java/lang/Object")] 2

/-- java/io/Serializable -/
def k4 : Class := { plain "java/io/Serializable" (some 0) with
  accessFlags := 1537
  interfaces := #[]
  cf := some (fileOf pool4 1 #[] #[] 1537 3 #[] #[])
  fields := #[]
  methods := #[]
  instanceTypes := #[]
  staticTypes := #[]
  resolved := Array.replicate 7 none
  statics := none }

def pool5 : Array CpInfo := pool [(2, .class_ 4), (1, u "java/lang/Enum"), (0, u "name"), (0, u "Ljava/lang/String;"), (2, u "ordinal"), (0, u "I"), (1, .class_ 14), (1, u "java/lang/Object"), (4, u "hash"), (86, .class_ 108), (1, u "java/lang/Enum$EnumDesc"), (2, .class_ 112), (0, u "java/lang/constant/Constable"), (0, .class_ 114), (0, u "java/lang/Comparable"), (0, .class_ 116), (0, u "java/io/Serializable")] 87

/-- java/lang/Enum -/
def k5 : Class := { plain "java/lang/Enum" (some 0) with
  accessFlags := 1057
  interfaces := #[2, 3, 4]
  cf := some (fileOf pool5 2 #[.nestMembers #[106]] #[] 1057 12 #[111, 113, 115] #[{ accessFlags := 18, nameIndex := 5, descriptorIndex := 6, attributes := #[] }, { accessFlags := 18, nameIndex := 9, descriptorIndex := 10, attributes := #[] }, { accessFlags := 2, nameIndex := 19, descriptorIndex := 10, attributes := #[] }])
  fields := #[{ name := "name", type := (.object "java/lang/String"), accessFlags := 18, slot := 0, constantValue := 0 }, { name := "ordinal", type := .int, accessFlags := 18, slot := 1, constantValue := 0 }, { name := "hash", type := .int, accessFlags := 2, slot := 2, constantValue := 0 }]
  methods := #[]
  instanceTypes := #[(.object "java/lang/String"), .int, .int]
  staticTypes := #[]
  resolved := Array.replicate 204 none
  statics := none }

def pool6 : Array CpInfo := pool [(1, .class_ 2), (0, u "com/example/attenuation/attenuation/core/Outcome$Status"), (2, u "DONE"), (0, u "Lcom/example/attenuation/attenuation/core/Outcome$Status;"), (2, u "DENIED"), (2, u "UNAVAILABLE"), (2, u "FAILED"), (2, u "UNREACHABLE"), (2, u "$VALUES"), (0, u "[Lcom/example/attenuation/attenuation/core/Outcome$Status;"), (6, .class_ 31), (1, u "java/lang/Enum"), (28, .class_ 61), (0, u "com/example/attenuation/attenuation/core/Outcome")] 2

/-- com/example/attenuation/attenuation/core/Outcome$Status -/
def k6 : Class := { plain "com/example/attenuation/attenuation/core/Outcome$Status" (some 5) with
  accessFlags := 16433
  interfaces := #[]
  cf := some (fileOf pool6 1 #[.nestHost 60] #[] 16433 29 #[] #[{ accessFlags := 16409, nameIndex := 5, descriptorIndex := 6, attributes := #[] }, { accessFlags := 16409, nameIndex := 9, descriptorIndex := 6, attributes := #[] }, { accessFlags := 16409, nameIndex := 12, descriptorIndex := 6, attributes := #[] }, { accessFlags := 16409, nameIndex := 15, descriptorIndex := 6, attributes := #[] }, { accessFlags := 16409, nameIndex := 18, descriptorIndex := 6, attributes := #[] }, { accessFlags := 4122, nameIndex := 21, descriptorIndex := 22, attributes := #[] }])
  fields := #[{ name := "DONE", type := (.object "com/example/attenuation/attenuation/core/Outcome$Status"), accessFlags := 16409, slot := 0, constantValue := 0 }, { name := "DENIED", type := (.object "com/example/attenuation/attenuation/core/Outcome$Status"), accessFlags := 16409, slot := 1, constantValue := 0 }, { name := "UNAVAILABLE", type := (.object "com/example/attenuation/attenuation/core/Outcome$Status"), accessFlags := 16409, slot := 2, constantValue := 0 }, { name := "FAILED", type := (.object "com/example/attenuation/attenuation/core/Outcome$Status"), accessFlags := 16409, slot := 3, constantValue := 0 }, { name := "UNREACHABLE", type := (.object "com/example/attenuation/attenuation/core/Outcome$Status"), accessFlags := 16409, slot := 4, constantValue := 0 }, { name := "$VALUES", type := (.array (.object "com/example/attenuation/attenuation/core/Outcome$Status")), accessFlags := 4122, slot := 5, constantValue := 0 }]
  methods := #[]
  instanceTypes := #[(.object "java/lang/String"), .int, .int]
  staticTypes := #[(.object "com/example/attenuation/attenuation/core/Outcome$Status"), (.object "com/example/attenuation/attenuation/core/Outcome$Status"), (.object "com/example/attenuation/attenuation/core/Outcome$Status"), (.object "com/example/attenuation/attenuation/core/Outcome$Status"), (.object "com/example/attenuation/attenuation/core/Outcome$Status"), (.array (.object "com/example/attenuation/attenuation/core/Outcome$Status"))]
  resolved := Array.replicate 64 none
  statics := some 0 }

def pool7 : Array CpInfo := pool [(1, .methodref 2 3), (0, .class_ 4), (0, .nameAndType 5 6), (0, u "java/lang/Object"), (0, u "<init>"), (0, u "()V"), (0, .class_ 8), (0, u "java/lang/Record")] 13

def k7c0 : Code := { maxStack := 1, maxLocals := 1, code := jdk_30_method_1_code, exceptionTable := #[], attributes := #[] }
def k7m0 : Method := { name := "<init>", desc := "()V", sig := { parameters := [], returnType := none }, accessFlags := 4, code := some k7c0 }
/-- java/lang/Record -/
def k7 : Class := { plain "java/lang/Record" (some 0) with
  accessFlags := 1057
  interfaces := #[]
  cf := some (fileOf pool7 7 #[] #[{ accessFlags := 4, nameIndex := 5, descriptorIndex := 6, attributes := #[] }] 1057 2 #[] #[])
  fields := #[]
  methods := #[k7m0]
  instanceTypes := #[]
  staticTypes := #[]
  resolved := Array.replicate 22 none
  statics := none }

def pool8 : Array CpInfo := pool [(1, .methodref 2 3), (0, .class_ 4), (0, .nameAndType 5 6), (0, u "java/lang/Record"), (0, u "<init>"), (0, u "()V"), (0, .string 8), (0, u "status"), (0, .methodref 10 11), (0, .class_ 12), (0, .nameAndType 13 14), (0, u "java/util/Objects"), (0, u "requireNonNull"), (0, u "(Ljava/lang/Object;Ljava/lang/String;)Ljava/lang/Object;"), (0, .string 16), (0, u "body"), (0, .fieldref 18 19), (0, .class_ 20), (0, .nameAndType 8 21), (0, u "com/example/attenuation/attenuation/core/Outcome"), (0, u "Lcom/example/attenuation/attenuation/core/Outcome$Status;"), (0, .fieldref 18 23), (0, .nameAndType 16 24), (0, u "[B"), (1, .class_ 28), (1, u "com/example/attenuation/attenuation/core/Outcome$Status"), (3, u "(Lcom/example/attenuation/attenuation/core/Outcome$Status;[B)V"), (3, .fieldref 37 38), (0, .class_ 39), (0, .nameAndType 40 41), (0, u "java/nio/charset/StandardCharsets"), (0, u "UTF_8"), (0, u "Ljava/nio/charset/Charset;"), (1, .class_ 45), (1, u "java/lang/String"), (90, u "text"), (0, u "()Ljava/lang/String;"), (11, u "WHY_LACKING"), (0, u "Ljava/util/regex/Pattern;"), (28, .methodref 43 180), (0, .nameAndType 5 181), (0, u "([BLjava/nio/charset/Charset;)V"), (29, u "LACKING"), (0, u "Ljava/lang/String;"), (1, u "APP_SEPARATOR"), (0, u "REDUCED_BY"), (2, u "OWN_BEHALF")] 63

def k8c0 : Code := { maxStack := 2, maxLocals := 3, code := prog_16_method_1_code, exceptionTable := #[], attributes := #[] }
def k8m0 : Method := { name := "<init>", desc := "(Lcom/example/attenuation/attenuation/core/Outcome$Status;[B)V", sig := { parameters := [(.object "com/example/attenuation/attenuation/core/Outcome$Status"), (.array .byte)], returnType := none }, accessFlags := 1, code := some k8c0 }
def k8c1 : Code := { maxStack := 4, maxLocals := 1, code := prog_16_method_10_code, exceptionTable := #[], attributes := #[] }
def k8m1 : Method := { name := "text", desc := "()Ljava/lang/String;", sig := { parameters := [], returnType := some (.object "java/lang/String") }, accessFlags := 1, code := some k8c1 }
/-- com/example/attenuation/attenuation/core/Outcome -/
def k8 : Class := { plain "com/example/attenuation/attenuation/core/Outcome" (some 7) with
  accessFlags := 49
  interfaces := #[]
  cf := some (fileOf pool8 18 #[.nestMembers #[26]] #[{ accessFlags := 1, nameIndex := 5, descriptorIndex := 32, attributes := #[] }, { accessFlags := 1, nameIndex := 136, descriptorIndex := 137, attributes := #[] }] 49 2 #[] #[{ accessFlags := 18, nameIndex := 8, descriptorIndex := 21, attributes := #[] }, { accessFlags := 18, nameIndex := 16, descriptorIndex := 24, attributes := #[] }, { accessFlags := 26, nameIndex := 211, descriptorIndex := 212, attributes := #[] }, { accessFlags := 26, nameIndex := 214, descriptorIndex := 212, attributes := #[] }, { accessFlags := 26, nameIndex := 215, descriptorIndex := 212, attributes := #[] }, { accessFlags := 26, nameIndex := 218, descriptorIndex := 212, attributes := #[] }, { accessFlags := 26, nameIndex := 149, descriptorIndex := 150, attributes := #[] }])
  fields := #[{ name := "status", type := (.object "com/example/attenuation/attenuation/core/Outcome$Status"), accessFlags := 18, slot := 0, constantValue := 0 }, { name := "body", type := (.array .byte), accessFlags := 18, slot := 1, constantValue := 0 }, { name := "LACKING", type := (.object "java/lang/String"), accessFlags := 26, slot := 0, constantValue := 0 }, { name := "APP_SEPARATOR", type := (.object "java/lang/String"), accessFlags := 26, slot := 1, constantValue := 0 }, { name := "REDUCED_BY", type := (.object "java/lang/String"), accessFlags := 26, slot := 2, constantValue := 0 }, { name := "OWN_BEHALF", type := (.object "java/lang/String"), accessFlags := 26, slot := 3, constantValue := 0 }, { name := "WHY_LACKING", type := (.object "java/util/regex/Pattern"), accessFlags := 26, slot := 4, constantValue := 0 }]
  methods := #[k8m0, k8m1]
  instanceTypes := #[(.object "com/example/attenuation/attenuation/core/Outcome$Status"), (.array .byte)]
  staticTypes := #[(.object "java/lang/String"), (.object "java/lang/String"), (.object "java/lang/String"), (.object "java/lang/String"), (.object "java/util/regex/Pattern")]
  resolved := Array.replicate 282 none
  statics := none }

def pool9 : Array CpInfo := pool [(2, .class_ 4), (1, u "java/lang/CharSequence"), (42, .class_ 48), (0, u "java/lang/CharSequence$1CodePointIterator"), (10, .class_ 60), (0, u "java/lang/CharSequence$1CharIterator"), (5, .class_ 67), (0, u "java/lang/Object")] 63

/-- java/lang/CharSequence -/
def k9 : Class := { plain "java/lang/CharSequence" (some 0) with
  accessFlags := 1537
  interfaces := #[]
  cf := some (fileOf pool9 2 #[.nestMembers #[47, 59]] #[] 1537 66 #[] #[])
  fields := #[]
  methods := #[]
  instanceTypes := #[]
  staticTypes := #[]
  resolved := Array.replicate 131 none
  statics := none }

def pool10 : Array CpInfo := pool [(1, .class_ 2), (0, u "java/lang/constant/ConstantDesc"), (0, .class_ 4), (0, u "java/lang/Object")] 32

/-- java/lang/constant/ConstantDesc -/
def k10 : Class := { plain "java/lang/constant/ConstantDesc" (some 0) with
  accessFlags := 1537
  interfaces := #[]
  cf := some (fileOf pool10 1 #[] #[] 1537 3 #[] #[])
  fields := #[]
  methods := #[]
  instanceTypes := #[]
  staticTypes := #[]
  resolved := Array.replicate 37 none
  statics := none }

def pool11 : Array CpInfo := pool [(1, .methodref 2 3), (0, .class_ 4), (0, .nameAndType 5 6), (0, u "java/lang/Object"), (0, u "<init>"), (0, u "()V"), (2, .fieldref 10 11), (0, .class_ 12), (0, .nameAndType 13 14), (0, u "java/lang/String"), (0, u "value"), (0, u "[B"), (0, .fieldref 10 16), (0, .nameAndType 17 18), (0, u "coder"), (0, u "B"), (2, u "hash"), (0, u "I"), (2, u "hashIsZero"), (0, u "Z"), (0, .methodref 10 28), (0, .nameAndType 5 29), (0, u "([CIILjava/lang/Void;)V"), (6, u "checkBoundsOffCount"), (0, u "(III)I"), (0, .fieldref 10 39), (0, .nameAndType 40 26), (0, u "COMPACT_STRINGS"), (1, .class_ 44), (1, u "java/lang/StringUTF16"), (0, u "compress"), (1, .methodref 42 48), (0, .nameAndType 49 50), (0, u "coderFromArrayLen"), (0, u "([BI)B"), (3, .methodref 55 56), (0, .class_ 57), (0, .nameAndType 58 59), (0, u "java/util/Arrays"), (0, u "copyOfRange"), (0, u "([BII)[B"), (0, .methodref 42 61), (0, .nameAndType 62 63), (0, u "newBytesFor"), (0, u "(I)[B"), (0, .methodref 42 65), (0, .nameAndType 66 67), (0, u "putChar"), (0, u "([BII)V"), (7, .methodref 10 76), (0, .nameAndType 5 77), (0, u "(Ljava/nio/charset/Charset;[BII)V"), (0, .methodref 79 80), (0, .class_ 81), (0, .nameAndType 82 83), (0, u "java/util/Objects"), (0, u "requireNonNull"), (0, u "(Ljava/lang/Object;)Ljava/lang/Object;"), (0, .class_ 85), (0, u "java/nio/charset/Charset"), (0, .fieldref 87 88), (0, .class_ 89), (0, .nameAndType 90 91), (0, u "sun/nio/cs/UTF_8"), (0, u "INSTANCE"), (0, u "Lsun/nio/cs/UTF_8;"), (0, .methodref 93 94), (0, .class_ 95), (0, .nameAndType 96 97), (0, u "java/lang/StringCoding"), (0, u "countPositives"), (0, u "([BII)I"), (0, .methodref 10 99), (0, .nameAndType 100 101), (0, u "decode2"), (0, u "(II)C"), (0, .methodref 55 103), (0, .nameAndType 104 105), (0, u "copyOf"), (0, u "([BI)[B"), (0, .methodref 107 108), (0, .class_ 109), (0, .nameAndType 110 111), (0, u "java/lang/StringLatin1"), (0, u "inflate"), (0, u "([BI[BII)V"), (0, .methodref 10 113), (0, .nameAndType 114 115), (0, u "decodeUTF8_UTF16"), (0, u "([BII[BIZ)I"), (16, .integer 65533), (44, .methodref 42 178), (0, .nameAndType 45 179), (0, u "([CII)[B"), (185, .class_ 367), (1, u "java/lang/Character"), (1, u "(C)Z"), (13, .integer 4294844288), (0, .integer 3678080), (0, .methodref 10 386), (0, .nameAndType 387 388), (0, u "isNotContinuation"), (0, u "(I)Z"), (3, .methodref 10 393), (0, .nameAndType 394 395), (0, u "isMalformed3"), (0, u "(III)Z"), (4, .methodref 10 401), (0, .nameAndType 402 403), (0, u "decode3"), (0, u "(III)C"), (0, .methodref 365 405), (0, .nameAndType 406 369), (0, u "isSurrogate"), (4, .methodref 10 412), (0, .nameAndType 413 414), (0, u "decode4"), (0, u "(IIII)I"), (0, .methodref 10 416), (0, .nameAndType 417 395), (0, u "isMalformed4"), (0, .methodref 365 419), (0, .nameAndType 420 388), (0, u "isSupplementaryCodePoint"), (3, .methodref 365 425), (0, .nameAndType 426 427), (0, u "highSurrogate"), (0, u "(I)C"), (0, .methodref 365 429), (0, .nameAndType 430 427), (0, u "lowSurrogate"), (110, .methodref 107 542), (0, .nameAndType 543 544), (0, u "equals"), (0, u "([B[B)Z"), (28, u "(Ljava/lang/Object;)Z"), (1, .class_ 576), (0, u "java/lang/CharSequence"), (22, u "CASE_INSENSITIVE_ORDER"), (0, u "Ljava/util/Comparator;"), (409, u "([C)V"), (42, .fieldref 1054 1055), (0, .class_ 1056), (0, .nameAndType 1057 1058), (0, u "jdk/internal/util/Preconditions"), (0, u "SIOOBE_FORMATTER"), (0, u "Ljava/util/function/BiFunction;"), (5, u "(IIILjava/util/function/BiFunction;)I"), (0, .methodref 1054 1066), (0, .nameAndType 1067 1064), (0, u "checkFromIndexSize"), (33, u "serialPersistentFields"), (0, u "[Ljava/io/ObjectStreamField;"), (0, .class_ 1104), (0, u "java/lang/String$CaseInsensitiveComparator"), (1, .class_ 1107), (0, u "java/io/Serializable"), (0, .class_ 1109), (0, u "java/lang/Comparable"), (0, .class_ 1111), (0, u "java/lang/constant/Constable"), (0, .class_ 1113), (0, u "java/lang/constant/ConstantDesc"), (2, u "serialVersionUID"), (0, u "J"), (3, u "REPL"), (0, u "C"), (2, u "LATIN1"), (1, u "UTF16"), (101, u "([BLjava/nio/charset/Charset;)V")] 221

def k11m0 : Method := { name := "<init>", desc := "()V", sig := { parameters := [], returnType := none }, accessFlags := 1, code := none }
def k11c1 : Code := { maxStack := 5, maxLocals := 2, code := jdk_42_method_3_code, exceptionTable := #[], attributes := #[] }
def k11m1 : Method := { name := "<init>", desc := "([C)V", sig := { parameters := [(.array .char)], returnType := none }, accessFlags := 1, code := some k11c1 }
def k11c2 : Code := { maxStack := 6, maxLocals := 11, code := jdk_42_method_11_code, exceptionTable := #[{ startPc := 800, endPc := 813, handlerPc := 816, catchType := 202 }], attributes := #[] }
def k11m2 : Method := { name := "<init>", desc := "(Ljava/nio/charset/Charset;[BII)V", sig := { parameters := [(.object "java/nio/charset/Charset"), (.array .byte), .int, .int], returnType := none }, accessFlags := 2, code := some k11c2 }
def k11c3 : Code := { maxStack := 2, maxLocals := 1, code := jdk_42_method_29_code, exceptionTable := #[], attributes := #[] }
def k11m3 : Method := { name := "isNotContinuation", desc := "(I)Z", sig := { parameters := [.int], returnType := some .boolean }, accessFlags := 10, code := some k11c3 }
def k11c4 : Code := { maxStack := 2, maxLocals := 3, code := jdk_42_method_30_code, exceptionTable := #[], attributes := #[] }
def k11m4 : Method := { name := "isMalformed3", desc := "(III)Z", sig := { parameters := [.int, .int, .int], returnType := some .boolean }, accessFlags := 10, code := some k11c4 }
def k11c5 : Code := { maxStack := 2, maxLocals := 3, code := jdk_42_method_32_code, exceptionTable := #[], attributes := #[] }
def k11m5 : Method := { name := "isMalformed4", desc := "(III)Z", sig := { parameters := [.int, .int, .int], returnType := some .boolean }, accessFlags := 10, code := some k11c5 }
def k11c6 : Code := { maxStack := 2, maxLocals := 2, code := jdk_42_method_35_code, exceptionTable := #[], attributes := #[] }
def k11m6 : Method := { name := "decode2", desc := "(II)C", sig := { parameters := [.int, .int], returnType := some .char }, accessFlags := 10, code := some k11c6 }
def k11c7 : Code := { maxStack := 3, maxLocals := 3, code := jdk_42_method_36_code, exceptionTable := #[], attributes := #[] }
def k11m7 : Method := { name := "decode3", desc := "(III)C", sig := { parameters := [.int, .int, .int], returnType := some .char }, accessFlags := 10, code := some k11c7 }
def k11c8 : Code := { maxStack := 3, maxLocals := 4, code := jdk_42_method_37_code, exceptionTable := #[], attributes := #[] }
def k11m8 : Method := { name := "decode4", desc := "(IIII)I", sig := { parameters := [.int, .int, .int, .int], returnType := some .int }, accessFlags := 10, code := some k11c8 }
def k11c9 : Code := { maxStack := 4, maxLocals := 11, code := jdk_42_method_38_code, exceptionTable := #[], attributes := #[] }
def k11m9 : Method := { name := "decodeUTF8_UTF16", desc := "([BII[BIZ)I", sig := { parameters := [(.array .byte), .int, .int, (.array .byte), .int, .boolean], returnType := some .int }, accessFlags := 10, code := some k11c9 }
def k11c10 : Code := { maxStack := 5, maxLocals := 3, code := jdk_42_method_49_code, exceptionTable := #[], attributes := #[] }
def k11m10 : Method := { name := "<init>", desc := "([BLjava/nio/charset/Charset;)V", sig := { parameters := [(.array .byte), (.object "java/nio/charset/Charset")], returnType := none }, accessFlags := 1, code := some k11c10 }
def k11c11 : Code := { maxStack := 2, maxLocals := 3, code := jdk_42_method_66_code, exceptionTable := #[], attributes := #[] }
def k11m11 : Method := { name := "equals", desc := "(Ljava/lang/Object;)Z", sig := { parameters := [(.object "java/lang/Object")], returnType := some .boolean }, accessFlags := 1, code := some k11c11 }
def k11c12 : Code := { maxStack := 4, maxLocals := 6, code := jdk_42_method_149_code, exceptionTable := #[], attributes := #[] }
def k11m12 : Method := { name := "<init>", desc := "([CIILjava/lang/Void;)V", sig := { parameters := [(.array .char), .int, .int, (.object "java/lang/Void")], returnType := none }, accessFlags := 2, code := some k11c12 }
def k11c13 : Code := { maxStack := 4, maxLocals := 3, code := jdk_42_method_157_code, exceptionTable := #[], attributes := #[] }
def k11m13 : Method := { name := "checkBoundsOffCount", desc := "(III)I", sig := { parameters := [.int, .int, .int], returnType := some .int }, accessFlags := 8, code := some k11c13 }
/-- java/lang/String -/
def k11 : Class := { plain "java/lang/String" (some 0) with
  accessFlags := 49
  interfaces := #[4, 3, 9, 2, 10]
  cf := some (fileOf pool11 10 #[.nestMembers #[1103]] #[{ accessFlags := 1, nameIndex := 5, descriptorIndex := 6, attributes := #[] }, { accessFlags := 1, nameIndex := 5, descriptorIndex := 1010, attributes := #[] }, { accessFlags := 2, nameIndex := 5, descriptorIndex := 77, attributes := #[] }, { accessFlags := 10, nameIndex := 387, descriptorIndex := 388, attributes := #[] }, { accessFlags := 10, nameIndex := 394, descriptorIndex := 395, attributes := #[] }, { accessFlags := 10, nameIndex := 417, descriptorIndex := 395, attributes := #[] }, { accessFlags := 10, nameIndex := 100, descriptorIndex := 101, attributes := #[] }, { accessFlags := 10, nameIndex := 402, descriptorIndex := 403, attributes := #[] }, { accessFlags := 10, nameIndex := 413, descriptorIndex := 414, attributes := #[] }, { accessFlags := 10, nameIndex := 114, descriptorIndex := 115, attributes := #[] }, { accessFlags := 1, nameIndex := 5, descriptorIndex := 1229, attributes := #[] }, { accessFlags := 1, nameIndex := 543, descriptorIndex := 573, attributes := #[] }, { accessFlags := 2, nameIndex := 5, descriptorIndex := 29, attributes := #[] }, { accessFlags := 8, nameIndex := 36, descriptorIndex := 37, attributes := #[] }] 49 2 #[1106, 1108, 575, 1110, 1112] #[{ accessFlags := 18, nameIndex := 13, descriptorIndex := 14, attributes := #[] }, { accessFlags := 18, nameIndex := 17, descriptorIndex := 18, attributes := #[] }, { accessFlags := 2, nameIndex := 21, descriptorIndex := 22, attributes := #[] }, { accessFlags := 2, nameIndex := 25, descriptorIndex := 26, attributes := #[] }, { accessFlags := 26, nameIndex := 1116, descriptorIndex := 1117, attributes := #[] }, { accessFlags := 24, nameIndex := 40, descriptorIndex := 26, attributes := #[] }, { accessFlags := 26, nameIndex := 1101, descriptorIndex := 1102, attributes := #[] }, { accessFlags := 26, nameIndex := 1121, descriptorIndex := 1122, attributes := #[] }, { accessFlags := 25, nameIndex := 599, descriptorIndex := 600, attributes := #[] }, { accessFlags := 24, nameIndex := 1125, descriptorIndex := 18, attributes := #[] }, { accessFlags := 24, nameIndex := 1127, descriptorIndex := 18, attributes := #[] }])
  fields := #[{ name := "value", type := (.array .byte), accessFlags := 18, slot := 0, constantValue := 0 }, { name := "coder", type := .byte, accessFlags := 18, slot := 1, constantValue := 0 }, { name := "hash", type := .int, accessFlags := 2, slot := 2, constantValue := 0 }, { name := "hashIsZero", type := .boolean, accessFlags := 2, slot := 3, constantValue := 0 }, { name := "serialVersionUID", type := .long, accessFlags := 26, slot := 0, constantValue := 0 }, { name := "COMPACT_STRINGS", type := .boolean, accessFlags := 24, slot := 1, constantValue := 0 }, { name := "serialPersistentFields", type := (.array (.object "java/io/ObjectStreamField")), accessFlags := 26, slot := 2, constantValue := 0 }, { name := "REPL", type := .char, accessFlags := 26, slot := 3, constantValue := 0 }, { name := "CASE_INSENSITIVE_ORDER", type := (.object "java/util/Comparator"), accessFlags := 25, slot := 4, constantValue := 0 }, { name := "LATIN1", type := .byte, accessFlags := 24, slot := 5, constantValue := 0 }, { name := "UTF16", type := .byte, accessFlags := 24, slot := 6, constantValue := 0 }]
  methods := #[k11m0, k11m1, k11m2, k11m3, k11m4, k11m5, k11m6, k11m7, k11m8, k11m9, k11m10, k11m11, k11m12, k11m13]
  instanceTypes := #[(.array .byte), .byte, .int, .boolean]
  staticTypes := #[.long, .boolean, (.array (.object "java/io/ObjectStreamField")), .char, (.object "java/util/Comparator"), .byte, .byte]
  resolved := Array.replicate 1451 none
  statics := some 1 }

def pool12 : Array CpInfo := pool [(2, .class_ 4), (1, u "java/lang/Object"), (0, u "<init>"), (0, u "()V"), (35, .class_ 44), (1, u "java/util/Objects"), (0, u "requireNonNull"), (0, u "(Ljava/lang/Object;)Ljava/lang/Object;"), (47, u "(Ljava/lang/Object;Ljava/lang/String;)Ljava/lang/Object;")] 89

def k12m0 : Method := { name := "<init>", desc := "()V", sig := { parameters := [], returnType := none }, accessFlags := 2, code := none }
def k12c1 : Code := { maxStack := 2, maxLocals := 1, code := jdk_31_method_10_code, exceptionTable := #[], attributes := #[] }
def k12m1 : Method := { name := "requireNonNull", desc := "(Ljava/lang/Object;)Ljava/lang/Object;", sig := { parameters := [(.object "java/lang/Object")], returnType := some (.object "java/lang/Object") }, accessFlags := 9, code := some k12c1 }
def k12c2 : Code := { maxStack := 3, maxLocals := 2, code := jdk_31_method_11_code, exceptionTable := #[], attributes := #[] }
def k12m2 : Method := { name := "requireNonNull", desc := "(Ljava/lang/Object;Ljava/lang/String;)Ljava/lang/Object;", sig := { parameters := [(.object "java/lang/Object"), (.object "java/lang/String")], returnType := some (.object "java/lang/Object") }, accessFlags := 9, code := some k12c2 }
/-- java/util/Objects -/
def k12 : Class := { plain "java/util/Objects" (some 0) with
  accessFlags := 49
  interfaces := #[]
  cf := some (fileOf pool12 42 #[] #[{ accessFlags := 2, nameIndex := 5, descriptorIndex := 6, attributes := #[] }, { accessFlags := 9, nameIndex := 45, descriptorIndex := 46, attributes := #[] }, { accessFlags := 9, nameIndex := 45, descriptorIndex := 94, attributes := #[] }] 49 2 #[] #[])
  fields := #[]
  methods := #[k12m0, k12m1, k12m2]
  instanceTypes := #[]
  staticTypes := #[]
  resolved := Array.replicate 184 none
  statics := none }

def pool13 : Array CpInfo := pool [(2, .class_ 4), (1, u "java/lang/Object"), (0, u "<init>"), (0, u "()V"), (14, .class_ 23), (1, u "java/nio/charset/StandardCharsets"), (0, u "US_ASCII"), (0, u "Ljava/nio/charset/Charset;"), (7, u "ISO_8859_1"), (7, u "UTF_8"), (5, u "UTF_16BE"), (5, u "UTF_16LE"), (5, u "UTF_16")] 8

def k13m0 : Method := { name := "<init>", desc := "()V", sig := { parameters := [], returnType := none }, accessFlags := 2, code := none }
/-- java/nio/charset/StandardCharsets -/
def k13 : Class := { plain "java/nio/charset/StandardCharsets" (some 0) with
  accessFlags := 49
  interfaces := #[]
  cf := some (fileOf pool13 21 #[] #[{ accessFlags := 2, nameIndex := 5, descriptorIndex := 6, attributes := #[] }] 49 2 #[] #[{ accessFlags := 25, nameIndex := 24, descriptorIndex := 25, attributes := #[] }, { accessFlags := 25, nameIndex := 33, descriptorIndex := 25, attributes := #[] }, { accessFlags := 25, nameIndex := 41, descriptorIndex := 25, attributes := #[] }, { accessFlags := 25, nameIndex := 47, descriptorIndex := 25, attributes := #[] }, { accessFlags := 25, nameIndex := 53, descriptorIndex := 25, attributes := #[] }, { accessFlags := 25, nameIndex := 59, descriptorIndex := 25, attributes := #[] }])
  fields := #[{ name := "US_ASCII", type := (.object "java/nio/charset/Charset"), accessFlags := 25, slot := 0, constantValue := 0 }, { name := "ISO_8859_1", type := (.object "java/nio/charset/Charset"), accessFlags := 25, slot := 1, constantValue := 0 }, { name := "UTF_8", type := (.object "java/nio/charset/Charset"), accessFlags := 25, slot := 2, constantValue := 0 }, { name := "UTF_16BE", type := (.object "java/nio/charset/Charset"), accessFlags := 25, slot := 3, constantValue := 0 }, { name := "UTF_16LE", type := (.object "java/nio/charset/Charset"), accessFlags := 25, slot := 4, constantValue := 0 }, { name := "UTF_16", type := (.object "java/nio/charset/Charset"), accessFlags := 25, slot := 5, constantValue := 0 }]
  methods := #[k13m0]
  instanceTypes := #[]
  staticTypes := #[(.object "java/nio/charset/Charset"), (.object "java/nio/charset/Charset"), (.object "java/nio/charset/Charset"), (.object "java/nio/charset/Charset"), (.object "java/nio/charset/Charset"), (.object "java/nio/charset/Charset")]
  resolved := Array.replicate 68 none
  statics := some 2 }

def pool14 : Array CpInfo := pool [(18, .class_ 20), (1, u "java/nio/charset/Charset"), (0, u "cache1"), (0, u "[Ljava/lang/Object;"), (2, u "cache2"), (0, .class_ 27), (0, u "java/lang/Object"), (0, .class_ 29), (0, u "java/nio/charset/Charset$1"), (4, .class_ 36), (1, u "java/nio/charset/Charset$ThreadTrackHolder"), (21, .class_ 59), (0, u "java/nio/charset/Charset$2"), (11, .class_ 73), (1, u "java/nio/charset/Charset$ExtendedProviderHolder"), (22, u "standardProvider"), (0, u "Ljava/nio/charset/spi/CharsetProvider;"), (29, u "name"), (7, .class_ 136), (0, u "java/nio/charset/Charset$3"), (5, u "defaultCharset"), (0, u "Ljava/nio/charset/Charset;"), (14, u "zeroAliases"), (0, u "[Ljava/lang/String;"), (29, u "Ljava/lang/String;"), (2, u "aliases"), (2, u "aliasSet"), (0, u "Ljava/util/Set;"), (82, .class_ 280), (0, u "java/lang/Comparable"), (84, .class_ 366), (0, u "java/nio/charset/Charset$ExtendedProviderHolder$1")] 3

/-- java/nio/charset/Charset -/
def k14 : Class := { plain "java/nio/charset/Charset" (some 0) with
  accessFlags := 1057
  interfaces := #[3]
  cf := some (fileOf pool14 18 #[.nestMembers #[71, 365, 34, 135, 58, 28]] #[] 1057 26 #[279] #[{ accessFlags := 26, nameIndex := 96, descriptorIndex := 97, attributes := #[] }, { accessFlags := 26, nameIndex := 158, descriptorIndex := 159, attributes := #[] }, { accessFlags := 74, nameIndex := 21, descriptorIndex := 22, attributes := #[] }, { accessFlags := 74, nameIndex := 25, descriptorIndex := 22, attributes := #[] }, { accessFlags := 10, nameIndex := 142, descriptorIndex := 143, attributes := #[] }, { accessFlags := 18, nameIndex := 127, descriptorIndex := 189, attributes := #[] }, { accessFlags := 18, nameIndex := 192, descriptorIndex := 159, attributes := #[] }, { accessFlags := 2, nameIndex := 195, descriptorIndex := 196, attributes := #[] }])
  fields := #[{ name := "standardProvider", type := (.object "java/nio/charset/spi/CharsetProvider"), accessFlags := 26, slot := 0, constantValue := 0 }, { name := "zeroAliases", type := (.array (.object "java/lang/String")), accessFlags := 26, slot := 1, constantValue := 0 }, { name := "cache1", type := (.array (.object "java/lang/Object")), accessFlags := 74, slot := 2, constantValue := 0 }, { name := "cache2", type := (.array (.object "java/lang/Object")), accessFlags := 74, slot := 3, constantValue := 0 }, { name := "defaultCharset", type := (.object "java/nio/charset/Charset"), accessFlags := 10, slot := 4, constantValue := 0 }, { name := "name", type := (.object "java/lang/String"), accessFlags := 18, slot := 0, constantValue := 0 }, { name := "aliases", type := (.array (.object "java/lang/String")), accessFlags := 18, slot := 1, constantValue := 0 }, { name := "aliasSet", type := (.object "java/util/Set"), accessFlags := 2, slot := 2, constantValue := 0 }]
  methods := #[]
  instanceTypes := #[(.object "java/lang/String"), (.array (.object "java/lang/String")), (.object "java/util/Set")]
  staticTypes := #[(.object "java/nio/charset/spi/CharsetProvider"), (.array (.object "java/lang/String")), (.array (.object "java/lang/Object")), (.array (.object "java/lang/Object")), (.object "java/nio/charset/Charset")]
  resolved := Array.replicate 370 none
  statics := none }

def pool15 : Array CpInfo := pool [(1, .class_ 2), (0, u "sun/nio/cs/HistoricallyNamedCharset"), (0, .class_ 4), (0, u "java/lang/Object")] 4

/-- sun/nio/cs/HistoricallyNamedCharset -/
def k15 : Class := { plain "sun/nio/cs/HistoricallyNamedCharset" (some 0) with
  accessFlags := 1537
  interfaces := #[]
  cf := some (fileOf pool15 1 #[] #[] 1537 3 #[] #[])
  fields := #[]
  methods := #[]
  instanceTypes := #[]
  staticTypes := #[]
  resolved := Array.replicate 9 none
  statics := none }

def pool16 : Array CpInfo := pool [(2, .class_ 4), (1, u "java/nio/charset/Charset"), (130, .class_ 136), (0, u "sun/nio/cs/Unicode"), (0, .class_ 138), (0, u "sun/nio/cs/HistoricallyNamedCharset")] 15

/-- sun/nio/cs/Unicode -/
def k16 : Class := { plain "sun/nio/cs/Unicode" (some 14) with
  accessFlags := 1056
  interfaces := #[15]
  cf := some (fileOf pool16 135 #[] #[] 1056 2 #[137] #[])
  fields := #[]
  methods := #[]
  instanceTypes := #[(.object "java/lang/String"), (.array (.object "java/lang/String")), (.object "java/util/Set")]
  staticTypes := #[]
  resolved := Array.replicate 154 none
  statics := none }

def pool17 : Array CpInfo := pool [(10, .class_ 12), (1, u "sun/nio/cs/Unicode"), (0, u "<init>"), (3, .class_ 18), (0, u "sun/nio/cs/UTF_8$Decoder"), (3, .class_ 23), (0, u "sun/nio/cs/UTF_8$Encoder"), (15, .class_ 40), (0, u "sun/nio/cs/UTF_8"), (2, u "()V"), (2, u "INSTANCE"), (0, u "Lsun/nio/cs/UTF_8;"), (8, u "JLA"), (0, u "Ljdk/internal/access/JavaLangAccess;")] 26

def k17m0 : Method := { name := "<init>", desc := "()V", sig := { parameters := [], returnType := none }, accessFlags := 1, code := none }
/-- sun/nio/cs/UTF_8 -/
def k17 : Class := { plain "sun/nio/cs/UTF_8" (some 16) with
  accessFlags := 49
  interfaces := #[]
  cf := some (fileOf pool17 39 #[.nestMembers #[22, 17]] #[{ accessFlags := 1, nameIndex := 13, descriptorIndex := 43, attributes := #[] }] 49 10 #[] #[{ accessFlags := 25, nameIndex := 46, descriptorIndex := 47, attributes := #[] }, { accessFlags := 26, nameIndex := 56, descriptorIndex := 57, attributes := #[] }])
  fields := #[{ name := "INSTANCE", type := (.object "sun/nio/cs/UTF_8"), accessFlags := 25, slot := 0, constantValue := 0 }, { name := "JLA", type := (.object "jdk/internal/access/JavaLangAccess"), accessFlags := 26, slot := 1, constantValue := 0 }]
  methods := #[k17m0]
  instanceTypes := #[(.object "java/lang/String"), (.array (.object "java/lang/String")), (.object "java/util/Set")]
  staticTypes := #[(.object "sun/nio/cs/UTF_8"), (.object "jdk/internal/access/JavaLangAccess")]
  resolved := Array.replicate 84 none
  statics := some 3 }

def pool18 : Array CpInfo := pool [(2, .class_ 4), (1, u "java/lang/Object"), (0, u "<init>"), (0, u "()V"), (1, .class_ 10), (1, u "java/lang/StringCoding"), (0, u "countPositives"), (0, u "([BII)I")] 36

def k18m0 : Method := { name := "<init>", desc := "()V", sig := { parameters := [], returnType := none }, accessFlags := 2, code := none }
def k18c1 : Code := { maxStack := 2, maxLocals := 5, code := jdk_123_method_3_code, exceptionTable := #[], attributes := #[] }
def k18m1 : Method := { name := "countPositives", desc := "([BII)I", sig := { parameters := [(.array .byte), .int, .int], returnType := some .int }, accessFlags := 9, code := some k18c1 }
/-- java/lang/StringCoding -/
def k18 : Class := { plain "java/lang/StringCoding" (some 0) with
  accessFlags := 32
  interfaces := #[]
  cf := some (fileOf pool18 8 #[] #[{ accessFlags := 2, nameIndex := 5, descriptorIndex := 6, attributes := #[] }, { accessFlags := 9, nameIndex := 11, descriptorIndex := 12, attributes := #[] }] 32 2 #[] #[])
  fields := #[]
  methods := #[k18m0, k18m1]
  instanceTypes := #[]
  staticTypes := #[]
  resolved := Array.replicate 49 none
  statics := none }

def pool19 : Array CpInfo := pool [(2, .class_ 4), (1, u "java/lang/Object"), (0, u "<init>"), (0, u "()V"), (7, .class_ 16), (1, u "java/util/Arrays"), (57, .class_ 76), (1, u "java/util/Arrays$NaturalOrder"), (32, u "()Ljava/lang/Object;"), (3, .class_ 115), (1, u "java/util/Arrays$LegacyMergeSort"), (1, u "Z"), (10, .nameAndType 129 109), (0, u "clone"), (9, u "copyOfRange"), (10, .methodref 151 152), (0, .class_ 153), (0, .nameAndType 154 155), (0, u "java/lang/System"), (0, u "arraycopy"), (0, u "(Ljava/lang/Object;ILjava/lang/Object;II)V"), (146, u "copyOf"), (1, .methodref 305 306), (0, .class_ 307), (0, .nameAndType 308 309), (0, u "java/lang/Math"), (0, u "min"), (0, u "(II)I"), (0, .methodref 311 128), (0, .class_ 312), (0, u "[B"), (29, u "([BII)[B"), (32, .class_ 376), (0, u "java/util/Arrays$ArrayList"), (68, u "$assertionsDisabled"), (269, u "MIN_ARRAY_SORT_GRAN"), (0, u "I"), (2, u "INSERTIONSORT_THRESHOLD"), (149, u "([BI)[B"), (105, .class_ 976), (0, u "java/util/Arrays$ArrayItr")] 52

def k19m0 : Method := { name := "<init>", desc := "()V", sig := { parameters := [], returnType := none }, accessFlags := 2, code := none }
def k19c1 : Code := { maxStack := 6, maxLocals := 3, code := jdk_65_method_121_code, exceptionTable := #[], attributes := #[] }
def k19m1 : Method := { name := "copyOf", desc := "([BI)[B", sig := { parameters := [(.array .byte), .int], returnType := some (.array .byte) }, accessFlags := 9, code := some k19c1 }
def k19c2 : Code := { maxStack := 3, maxLocals := 3, code := jdk_65_method_132_code, exceptionTable := #[], attributes := #[] }
def k19m2 : Method := { name := "copyOfRange", desc := "([BII)[B", sig := { parameters := [(.array .byte), .int, .int], returnType := some (.array .byte) }, accessFlags := 9, code := some k19c2 }
/-- java/util/Arrays -/
def k19 : Class := { plain "java/util/Arrays" (some 0) with
  accessFlags := 49
  interfaces := #[]
  cf := some (fileOf pool19 14 #[.nestMembers #[975, 375, 113, 74]] #[{ accessFlags := 2, nameIndex := 5, descriptorIndex := 6, attributes := #[] }, { accessFlags := 9, nameIndex := 302, descriptorIndex := 869, attributes := #[] }, { accessFlags := 9, nameIndex := 139, descriptorIndex := 342, attributes := #[] }] 49 2 #[] #[{ accessFlags := 26, nameIndex := 715, descriptorIndex := 716, attributes := #[] }, { accessFlags := 26, nameIndex := 719, descriptorIndex := 716, attributes := #[] }, { accessFlags := 4120, nameIndex := 445, descriptorIndex := 117, attributes := #[] }])
  fields := #[{ name := "MIN_ARRAY_SORT_GRAN", type := .int, accessFlags := 26, slot := 0, constantValue := 0 }, { name := "INSERTIONSORT_THRESHOLD", type := .int, accessFlags := 26, slot := 1, constantValue := 0 }, { name := "$assertionsDisabled", type := .boolean, accessFlags := 4120, slot := 2, constantValue := 0 }]
  methods := #[k19m0, k19m1, k19m2]
  instanceTypes := #[]
  staticTypes := #[.int, .int, .boolean]
  resolved := Array.replicate 1029 none
  statics := none }

def pool20 : Array CpInfo := pool [(1, .class_ 2), (0, u "java/lang/Cloneable"), (0, .class_ 4), (0, u "java/lang/Object")] 2

/-- java/lang/Cloneable -/
def k20 : Class := { plain "java/lang/Cloneable" (some 0) with
  accessFlags := 1537
  interfaces := #[]
  cf := some (fileOf pool20 1 #[] #[] 1537 3 #[] #[])
  fields := #[]
  methods := #[]
  instanceTypes := #[]
  staticTypes := #[]
  resolved := Array.replicate 7 none
  statics := none }

def pool21 : Array CpInfo := pool [(3, .class_ 4), (0, u "java/lang/String"), (1, .class_ 8), (1, u "java/lang/Object"), (0, u "<init>"), (0, u "()V"), (0, .methodref 12 13), (0, .class_ 14), (0, .nameAndType 15 16), (0, u "java/lang/StringUTF16"), (0, u "newBytesLength"), (0, u "(I)I"), (3, .integer 1073741823), (23, .fieldref 12 45), (0, .nameAndType 46 47), (0, u "$assertionsDisabled"), (0, u "Z"), (0, .methodref 12 49), (0, .nameAndType 50 51), (0, u "length"), (0, u "([B)I"), (7, .fieldref 12 60), (0, .nameAndType 61 62), (0, u "HI_BYTE_SHIFT"), (0, u "I"), (0, .fieldref 12 64), (0, .nameAndType 65 62), (0, u "LO_BYTE_SHIFT"), (5, .methodref 12 72), (0, .nameAndType 73 74), (0, u "getChar"), (0, u "([BI)C"), (24, u "(II[B)V"), (7, .methodref 12 108), (0, .nameAndType 109 110), (0, u "newBytesFor"), (0, u "(I)[B"), (0, .methodref 12 112), (0, .nameAndType 113 114), (0, u "putChar"), (0, u "([BII)V"), (0, .methodref 12 116), (0, .nameAndType 117 118), (0, u "compress"), (0, u "([CI[BII)I"), (0, .methodref 12 120), (0, .nameAndType 121 122), (0, u "toBytes"), (0, u "([CII)[B"), (17, u "inflate"), (0, u "([BI[BII)V"), (31, .methodref 12 174), (0, .nameAndType 175 99), (0, u "checkBoundsOffCount"), (85, u "coderFromArrayLen"), (0, u "([BI)B"), (18, u "(III)I"), (87, .class_ 371), (1, u "java/lang/StringUTF16$LinesSpliterator"), (47, .methodref 3 420), (0, .nameAndType 175 281), (9, u "MAX_LENGTH"), (196, .class_ 628), (0, u "java/lang/StringUTF16$CodePointsSpliterator"), (0, .class_ 630), (0, u "java/lang/StringUTF16$CharsSpliterator")] 4

def k21m0 : Method := { name := "<init>", desc := "()V", sig := { parameters := [], returnType := none }, accessFlags := 0, code := none }
def k21c1 : Code := { maxStack := 1, maxLocals := 1, code := jdk_52_method_2_code, exceptionTable := #[], attributes := #[] }
def k21m1 : Method := { name := "newBytesFor", desc := "(I)[B", sig := { parameters := [.int], returnType := some (.array .byte) }, accessFlags := 9, code := some k21c1 }
def k21c2 : Code := { maxStack := 4, maxLocals := 1, code := jdk_52_method_3_code, exceptionTable := #[], attributes := #[] }
def k21m2 : Method := { name := "newBytesLength", desc := "(I)I", sig := { parameters := [.int], returnType := some .int }, accessFlags := 9, code := some k21c2 }
def k21c3 : Code := { maxStack := 4, maxLocals := 3, code := jdk_52_method_4_code, exceptionTable := #[], attributes := #[] }
def k21m3 : Method := { name := "putChar", desc := "([BII)V", sig := { parameters := [(.array .byte), .int, .int], returnType := none }, accessFlags := 8, code := some k21c3 }
def k21c4 : Code := { maxStack := 3, maxLocals := 2, code := jdk_52_method_5_code, exceptionTable := #[], attributes := #[] }
def k21m4 : Method := { name := "getChar", desc := "([BI)C", sig := { parameters := [(.array .byte), .int], returnType := some .char }, accessFlags := 8, code := some k21c4 }
def k21c5 : Code := { maxStack := 2, maxLocals := 1, code := jdk_52_method_6_code, exceptionTable := #[], attributes := #[] }
def k21m5 : Method := { name := "length", desc := "([B)I", sig := { parameters := [(.array .byte)], returnType := some .int }, accessFlags := 9, code := some k21c5 }
def k21c6 : Code := { maxStack := 4, maxLocals := 5, code := jdk_52_method_14_code, exceptionTable := #[], attributes := #[] }
def k21m6 : Method := { name := "toBytes", desc := "([CII)[B", sig := { parameters := [(.array .char), .int, .int], returnType := some (.array .byte) }, accessFlags := 9, code := some k21c6 }
def k21c7 : Code := { maxStack := 2, maxLocals := 2, code := jdk_52_method_15_code, exceptionTable := #[], attributes := #[] }
def k21m7 : Method := { name := "coderFromArrayLen", desc := "([BI)B", sig := { parameters := [(.array .byte), .int], returnType := some .byte }, accessFlags := 8, code := some k21c7 }
def k21c8 : Code := { maxStack := 5, maxLocals := 6, code := jdk_52_method_16_code, exceptionTable := #[], attributes := #[] }
def k21m8 : Method := { name := "compress", desc := "([CII)[B", sig := { parameters := [(.array .char), .int, .int], returnType := some (.array .byte) }, accessFlags := 9, code := some k21c8 }
def k21c9 : Code := { maxStack := 3, maxLocals := 7, code := jdk_52_method_21_code, exceptionTable := #[], attributes := #[] }
def k21m9 : Method := { name := "compress", desc := "([CI[BII)I", sig := { parameters := [(.array .char), .int, (.array .byte), .int, .int], returnType := some .int }, accessFlags := 9, code := some k21c9 }
def k21c10 : Code := { maxStack := 4, maxLocals := 6, code := jdk_52_method_86_code, exceptionTable := #[], attributes := #[] }
def k21m10 : Method := { name := "inflate", desc := "([BI[BII)V", sig := { parameters := [(.array .byte), .int, (.array .byte), .int, .int], returnType := none }, accessFlags := 9, code := some k21c10 }
def k21c11 : Code := { maxStack := 3, maxLocals := 3, code := jdk_52_method_94_code, exceptionTable := #[], attributes := #[] }
def k21m11 : Method := { name := "checkBoundsOffCount", desc := "(II[B)V", sig := { parameters := [.int, .int, (.array .byte)], returnType := none }, accessFlags := 9, code := some k21c11 }
/-- java/lang/StringUTF16 -/
def k21 : Class := { plain "java/lang/StringUTF16" (some 0) with
  accessFlags := 48
  interfaces := #[]
  cf := some (fileOf pool21 12 #[.nestMembers #[627, 629, 369]] #[{ accessFlags := 0, nameIndex := 9, descriptorIndex := 10, attributes := #[] }, { accessFlags := 9, nameIndex := 109, descriptorIndex := 110, attributes := #[] }, { accessFlags := 9, nameIndex := 15, descriptorIndex := 16, attributes := #[] }, { accessFlags := 8, nameIndex := 113, descriptorIndex := 114, attributes := #[] }, { accessFlags := 8, nameIndex := 73, descriptorIndex := 74, attributes := #[] }, { accessFlags := 9, nameIndex := 50, descriptorIndex := 51, attributes := #[] }, { accessFlags := 9, nameIndex := 121, descriptorIndex := 122, attributes := #[] }, { accessFlags := 8, nameIndex := 261, descriptorIndex := 262, attributes := #[] }, { accessFlags := 9, nameIndex := 117, descriptorIndex := 122, attributes := #[] }, { accessFlags := 9, nameIndex := 117, descriptorIndex := 118, attributes := #[] }, { accessFlags := 9, nameIndex := 140, descriptorIndex := 141, attributes := #[] }, { accessFlags := 9, nameIndex := 175, descriptorIndex := 99, attributes := #[] }] 48 6 #[] #[{ accessFlags := 26, nameIndex := 61, descriptorIndex := 62, attributes := #[] }, { accessFlags := 26, nameIndex := 65, descriptorIndex := 62, attributes := #[] }, { accessFlags := 24, nameIndex := 430, descriptorIndex := 62, attributes := #[] }, { accessFlags := 4120, nameIndex := 46, descriptorIndex := 47, attributes := #[] }])
  fields := #[{ name := "HI_BYTE_SHIFT", type := .int, accessFlags := 26, slot := 0, constantValue := 0 }, { name := "LO_BYTE_SHIFT", type := .int, accessFlags := 26, slot := 1, constantValue := 0 }, { name := "MAX_LENGTH", type := .int, accessFlags := 24, slot := 2, constantValue := 0 }, { name := "$assertionsDisabled", type := .boolean, accessFlags := 4120, slot := 3, constantValue := 0 }]
  methods := #[k21m0, k21m1, k21m2, k21m3, k21m4, k21m5, k21m6, k21m7, k21m8, k21m9, k21m10, k21m11]
  instanceTypes := #[]
  staticTypes := #[.int, .int, .int, .boolean]
  resolved := Array.replicate 635 none
  statics := some 4 }

def pool22 : Array CpInfo := pool [(4, .class_ 6), (1, u "java/lang/Object"), (0, u "<init>"), (0, u "()V"), (5, .class_ 16), (1, u "java/lang/StringLatin1"), (0, u "inflate"), (2, .class_ 22), (1, u "java/lang/StringUTF16"), (3, .nameAndType 17 27), (0, u "([BI[BII)V"), (93, u "$assertionsDisabled"), (0, u "Z"), (98, .class_ 223), (1, u "java/lang/StringLatin1$LinesSpliterator"), (16, .methodref 20 26), (40, u "equals"), (0, u "([B[B)Z"), (107, .class_ 391), (0, u "java/lang/StringLatin1$CharsSpliterator")] 3

def k22m0 : Method := { name := "<init>", desc := "()V", sig := { parameters := [], returnType := none }, accessFlags := 0, code := none }
def k22c1 : Code := { maxStack := 3, maxLocals := 3, code := jdk_43_method_13_code, exceptionTable := #[], attributes := #[] }
def k22m1 : Method := { name := "equals", desc := "([B[B)Z", sig := { parameters := [(.array .byte), (.array .byte)], returnType := some .boolean }, accessFlags := 9, code := some k22c1 }
def k22c2 : Code := { maxStack := 5, maxLocals := 5, code := jdk_43_method_50_code, exceptionTable := #[], attributes := #[] }
def k22m2 : Method := { name := "inflate", desc := "([BI[BII)V", sig := { parameters := [(.array .byte), .int, (.array .byte), .int, .int], returnType := none }, accessFlags := 9, code := some k22c2 }
/-- java/lang/StringLatin1 -/
def k22 : Class := { plain "java/lang/StringLatin1" (some 0) with
  accessFlags := 48
  interfaces := #[]
  cf := some (fileOf pool22 14 #[.nestMembers #[390, 221]] #[{ accessFlags := 0, nameIndex := 7, descriptorIndex := 8, attributes := #[] }, { accessFlags := 9, nameIndex := 281, descriptorIndex := 282, attributes := #[] }, { accessFlags := 9, nameIndex := 17, descriptorIndex := 27, attributes := #[] }] 48 4 #[] #[{ accessFlags := 4120, nameIndex := 121, descriptorIndex := 122, attributes := #[] }])
  fields := #[{ name := "$assertionsDisabled", type := .boolean, accessFlags := 4120, slot := 0, constantValue := 0 }]
  methods := #[k22m0, k22m1, k22m2]
  instanceTypes := #[]
  staticTypes := #[.boolean]
  resolved := Array.replicate 395 none
  statics := none }

def pool23 : Array CpInfo := pool [(2, .class_ 4), (1, u "java/lang/Object"), (0, u "<init>"), (0, u "()V"), (17, .class_ 26), (1, u "jdk/internal/util/Preconditions"), (22, u "checkFromIndexSize"), (5, .class_ 56), (0, u "jdk/internal/util/Preconditions$4"), (57, .class_ 115), (0, u "jdk/internal/util/Preconditions$1"), (7, u "SIOOBE_FORMATTER"), (0, u "Ljava/util/function/BiFunction;"), (0, .class_ 126), (0, u "jdk/internal/util/Preconditions$2"), (3, u "AIOOBE_FORMATTER"), (0, .class_ 132), (0, u "jdk/internal/util/Preconditions$3"), (3, u "IOOBE_FORMATTER"), (46, u "(IIILjava/util/function/BiFunction;)I")] 10

def k23m0 : Method := { name := "<init>", desc := "()V", sig := { parameters := [], returnType := none }, accessFlags := 1, code := none }
def k23c1 : Code := { maxStack := 4, maxLocals := 4, code := jdk_41_method_13_code, exceptionTable := #[], attributes := #[] }
def k23m1 : Method := { name := "checkFromIndexSize", desc := "(IIILjava/util/function/BiFunction;)I", sig := { parameters := [.int, .int, .int, (.object "java/util/function/BiFunction")], returnType := some .int }, accessFlags := 9, code := some k23c1 }
/-- jdk/internal/util/Preconditions -/
def k23 : Class := { plain "jdk/internal/util/Preconditions" (some 0) with
  accessFlags := 33
  interfaces := #[]
  cf := some (fileOf pool23 24 #[.nestMembers #[55, 131, 125, 114]] #[{ accessFlags := 1, nameIndex := 5, descriptorIndex := 6, attributes := #[] }, { accessFlags := 9, nameIndex := 49, descriptorIndex := 183, attributes := #[] }] 33 2 #[] #[{ accessFlags := 25, nameIndex := 123, descriptorIndex := 124, attributes := #[] }, { accessFlags := 25, nameIndex := 130, descriptorIndex := 124, attributes := #[] }, { accessFlags := 25, nameIndex := 136, descriptorIndex := 124, attributes := #[] }])
  fields := #[{ name := "SIOOBE_FORMATTER", type := (.object "java/util/function/BiFunction"), accessFlags := 25, slot := 0, constantValue := 0 }, { name := "AIOOBE_FORMATTER", type := (.object "java/util/function/BiFunction"), accessFlags := 25, slot := 1, constantValue := 0 }, { name := "IOOBE_FORMATTER", type := (.object "java/util/function/BiFunction"), accessFlags := 25, slot := 2, constantValue := 0 }]
  methods := #[k23m0, k23m1]
  instanceTypes := #[]
  staticTypes := #[(.object "java/util/function/BiFunction"), (.object "java/util/function/BiFunction"), (.object "java/util/function/BiFunction")]
  resolved := Array.replicate 194 none
  statics := some 5 }

def pool24 : Array CpInfo := pool [(1, .class_ 2), (0, u "java/lang/Character"), (18, u "value"), (0, u "C"), (19, .class_ 44), (1, u "java/lang/Object"), (3, .class_ 50), (1, u "java/lang/Character$CharacterCache"), (22, .integer 65536), (0, .integer 1114112), (0, .integer 55296), (0, .integer 56320), (0, .integer 57344), (3, u "(C)Z"), (9, u "(I)C"), (18, .integer 55232), (3, u "(I)Z"), (20, u "lowSurrogate"), (2, u "highSurrogate"), (145, u "$assertionsDisabled"), (0, u "Z"), (21, .class_ 309), (1, u "java/lang/Character$UnicodeBlock"), (73, u "TYPE"), (0, u "Ljava/lang/Class;"), (0, .class_ 386), (0, u "java/io/Serializable"), (0, .class_ 388), (0, u "java/lang/Comparable"), (0, .class_ 390), (0, u "java/lang/constant/Constable"), (0, u "MIN_RADIX"), (0, u "I"), (2, u "MAX_RADIX"), (1, u "MIN_VALUE"), (1, u "MAX_VALUE"), (3, u "UNASSIGNED"), (0, u "B"), (0, u "UPPERCASE_LETTER"), (1, u "LOWERCASE_LETTER"), (0, u "TITLECASE_LETTER"), (1, u "MODIFIER_LETTER"), (1, u "OTHER_LETTER"), (1, u "NON_SPACING_MARK"), (1, u "ENCLOSING_MARK"), (1, u "COMBINING_SPACING_MARK"), (1, u "DECIMAL_DIGIT_NUMBER"), (1, u "LETTER_NUMBER"), (1, u "OTHER_NUMBER"), (1, u "SPACE_SEPARATOR"), (1, u "LINE_SEPARATOR"), (1, u "PARAGRAPH_SEPARATOR"), (1, u "CONTROL"), (1, u "FORMAT"), (1, u "PRIVATE_USE"), (1, u "SURROGATE"), (1, u "DASH_PUNCTUATION"), (1, u "START_PUNCTUATION"), (1, u "END_PUNCTUATION"), (1, u "CONNECTOR_PUNCTUATION"), (1, u "OTHER_PUNCTUATION"), (1, u "MATH_SYMBOL"), (1, u "CURRENCY_SYMBOL"), (1, u "MODIFIER_SYMBOL"), (1, u "OTHER_SYMBOL"), (1, u "INITIAL_QUOTE_PUNCTUATION"), (1, u "FINAL_QUOTE_PUNCTUATION"), (1, u "ERROR"), (1, u "DIRECTIONALITY_UNDEFINED"), (0, u "DIRECTIONALITY_LEFT_TO_RIGHT"), (0, u "DIRECTIONALITY_RIGHT_TO_LEFT"), (0, u "DIRECTIONALITY_RIGHT_TO_LEFT_ARABIC"), (0, u "DIRECTIONALITY_EUROPEAN_NUMBER"), (0, u "DIRECTIONALITY_EUROPEAN_NUMBER_SEPARATOR"), (0, u "DIRECTIONALITY_EUROPEAN_NUMBER_TERMINATOR"), (0, u "DIRECTIONALITY_ARABIC_NUMBER"), (0, u "DIRECTIONALITY_COMMON_NUMBER_SEPARATOR"), (0, u "DIRECTIONALITY_NONSPACING_MARK"), (0, u "DIRECTIONALITY_BOUNDARY_NEUTRAL"), (0, u "DIRECTIONALITY_PARAGRAPH_SEPARATOR"), (0, u "DIRECTIONALITY_SEGMENT_SEPARATOR"), (0, u "DIRECTIONALITY_WHITESPACE"), (0, u "DIRECTIONALITY_OTHER_NEUTRALS"), (0, u "DIRECTIONALITY_LEFT_TO_RIGHT_EMBEDDING"), (0, u "DIRECTIONALITY_LEFT_TO_RIGHT_OVERRIDE"), (0, u "DIRECTIONALITY_RIGHT_TO_LEFT_EMBEDDING"), (0, u "DIRECTIONALITY_RIGHT_TO_LEFT_OVERRIDE"), (1, u "DIRECTIONALITY_POP_DIRECTIONAL_FORMAT"), (0, u "DIRECTIONALITY_LEFT_TO_RIGHT_ISOLATE"), (0, u "DIRECTIONALITY_RIGHT_TO_LEFT_ISOLATE"), (0, u "DIRECTIONALITY_FIRST_STRONG_ISOLATE"), (0, u "DIRECTIONALITY_POP_DIRECTIONAL_ISOLATE"), (0, u "MIN_HIGH_SURROGATE"), (0, u "MAX_HIGH_SURROGATE"), (1, u "MIN_LOW_SURROGATE"), (0, u "MAX_LOW_SURROGATE"), (1, u "MIN_SURROGATE"), (0, u "MAX_SURROGATE"), (0, u "MIN_SUPPLEMENTARY_CODE_POINT"), (0, u "MIN_CODE_POINT"), (0, u "MAX_CODE_POINT"), (1, u "serialVersionUID"), (0, u "J"), (2, u "SIZE"), (0, u "BYTES"), (22, u "isSupplementaryCodePoint"), (1, u "isSurrogate"), (63, .class_ 596), (0, u "java/lang/Character$UnicodeScript"), (0, .class_ 598), (0, u "java/lang/Character$Subset")] 5

def k24c0 : Code := { maxStack := 2, maxLocals := 1, code := jdk_89_method_13_code, exceptionTable := #[], attributes := #[] }
def k24m0 : Method := { name := "isSupplementaryCodePoint", desc := "(I)Z", sig := { parameters := [.int], returnType := some .boolean }, accessFlags := 9, code := some k24c0 }
def k24c1 : Code := { maxStack := 2, maxLocals := 1, code := jdk_89_method_16_code, exceptionTable := #[], attributes := #[] }
def k24m1 : Method := { name := "isSurrogate", desc := "(C)Z", sig := { parameters := [.char], returnType := some .boolean }, accessFlags := 9, code := some k24c1 }
def k24c2 : Code := { maxStack := 2, maxLocals := 1, code := jdk_89_method_28_code, exceptionTable := #[], attributes := #[] }
def k24m2 : Method := { name := "highSurrogate", desc := "(I)C", sig := { parameters := [.int], returnType := some .char }, accessFlags := 9, code := some k24c2 }
def k24c3 : Code := { maxStack := 2, maxLocals := 1, code := jdk_89_method_29_code, exceptionTable := #[], attributes := #[] }
def k24m3 : Method := { name := "lowSurrogate", desc := "(I)C", sig := { parameters := [.int], returnType := some .char }, accessFlags := 9, code := some k24c3 }
/-- java/lang/Character -/
def k24 : Class := { plain "java/lang/Character" (some 0) with
  accessFlags := 49
  interfaces := #[4, 3, 2]
  cf := some (fileOf pool24 1 #[.nestMembers #[48, 595, 307, 597]] #[{ accessFlags := 9, nameIndex := 529, descriptorIndex := 114, attributes := #[] }, { accessFlags := 9, nameIndex := 531, descriptorIndex := 81, attributes := #[] }, { accessFlags := 9, nameIndex := 138, descriptorIndex := 91, attributes := #[] }, { accessFlags := 9, nameIndex := 135, descriptorIndex := 91, attributes := #[] }] 49 42 #[385, 387, 389] #[{ accessFlags := 25, nameIndex := 391, descriptorIndex := 392, attributes := #[] }, { accessFlags := 25, nameIndex := 395, descriptorIndex := 392, attributes := #[] }, { accessFlags := 25, nameIndex := 397, descriptorIndex := 22, attributes := #[] }, { accessFlags := 25, nameIndex := 399, descriptorIndex := 22, attributes := #[] }, { accessFlags := 25, nameIndex := 383, descriptorIndex := 384, attributes := #[] }, { accessFlags := 25, nameIndex := 403, descriptorIndex := 404, attributes := #[] }, { accessFlags := 25, nameIndex := 405, descriptorIndex := 404, attributes := #[] }, { accessFlags := 25, nameIndex := 407, descriptorIndex := 404, attributes := #[] }, { accessFlags := 25, nameIndex := 408, descriptorIndex := 404, attributes := #[] }, { accessFlags := 25, nameIndex := 410, descriptorIndex := 404, attributes := #[] }, { accessFlags := 25, nameIndex := 412, descriptorIndex := 404, attributes := #[] }, { accessFlags := 25, nameIndex := 414, descriptorIndex := 404, attributes := #[] }, { accessFlags := 25, nameIndex := 416, descriptorIndex := 404, attributes := #[] }, { accessFlags := 25, nameIndex := 418, descriptorIndex := 404, attributes := #[] }, { accessFlags := 25, nameIndex := 420, descriptorIndex := 404, attributes := #[] }, { accessFlags := 25, nameIndex := 422, descriptorIndex := 404, attributes := #[] }, { accessFlags := 25, nameIndex := 424, descriptorIndex := 404, attributes := #[] }, { accessFlags := 25, nameIndex := 426, descriptorIndex := 404, attributes := #[] }, { accessFlags := 25, nameIndex := 428, descriptorIndex := 404, attributes := #[] }, { accessFlags := 25, nameIndex := 430, descriptorIndex := 404, attributes := #[] }, { accessFlags := 25, nameIndex := 432, descriptorIndex := 404, attributes := #[] }, { accessFlags := 25, nameIndex := 434, descriptorIndex := 404, attributes := #[] }, { accessFlags := 25, nameIndex := 436, descriptorIndex := 404, attributes := #[] }, { accessFlags := 25, nameIndex := 438, descriptorIndex := 404, attributes := #[] }, { accessFlags := 25, nameIndex := 440, descriptorIndex := 404, attributes := #[] }, { accessFlags := 25, nameIndex := 442, descriptorIndex := 404, attributes := #[] }, { accessFlags := 25, nameIndex := 444, descriptorIndex := 404, attributes := #[] }, { accessFlags := 25, nameIndex := 446, descriptorIndex := 404, attributes := #[] }, { accessFlags := 25, nameIndex := 448, descriptorIndex := 404, attributes := #[] }, { accessFlags := 25, nameIndex := 450, descriptorIndex := 404, attributes := #[] }, { accessFlags := 25, nameIndex := 452, descriptorIndex := 404, attributes := #[] }, { accessFlags := 25, nameIndex := 454, descriptorIndex := 404, attributes := #[] }, { accessFlags := 25, nameIndex := 456, descriptorIndex := 404, attributes := #[] }, { accessFlags := 25, nameIndex := 458, descriptorIndex := 404, attributes := #[] }, { accessFlags := 25, nameIndex := 460, descriptorIndex := 404, attributes := #[] }, { accessFlags := 24, nameIndex := 462, descriptorIndex := 392, attributes := #[] }, { accessFlags := 25, nameIndex := 464, descriptorIndex := 404, attributes := #[] }, { accessFlags := 25, nameIndex := 465, descriptorIndex := 404, attributes := #[] }, { accessFlags := 25, nameIndex := 466, descriptorIndex := 404, attributes := #[] }, { accessFlags := 25, nameIndex := 467, descriptorIndex := 404, attributes := #[] }, { accessFlags := 25, nameIndex := 468, descriptorIndex := 404, attributes := #[] }, { accessFlags := 25, nameIndex := 469, descriptorIndex := 404, attributes := #[] }, { accessFlags := 25, nameIndex := 470, descriptorIndex := 404, attributes := #[] }, { accessFlags := 25, nameIndex := 471, descriptorIndex := 404, attributes := #[] }, { accessFlags := 25, nameIndex := 472, descriptorIndex := 404, attributes := #[] }, { accessFlags := 25, nameIndex := 473, descriptorIndex := 404, attributes := #[] }, { accessFlags := 25, nameIndex := 474, descriptorIndex := 404, attributes := #[] }, { accessFlags := 25, nameIndex := 475, descriptorIndex := 404, attributes := #[] }, { accessFlags := 25, nameIndex := 476, descriptorIndex := 404, attributes := #[] }, { accessFlags := 25, nameIndex := 477, descriptorIndex := 404, attributes := #[] }, { accessFlags := 25, nameIndex := 478, descriptorIndex := 404, attributes := #[] }, { accessFlags := 25, nameIndex := 479, descriptorIndex := 404, attributes := #[] }, { accessFlags := 25, nameIndex := 480, descriptorIndex := 404, attributes := #[] }, { accessFlags := 25, nameIndex := 481, descriptorIndex := 404, attributes := #[] }, { accessFlags := 25, nameIndex := 482, descriptorIndex := 404, attributes := #[] }, { accessFlags := 25, nameIndex := 484, descriptorIndex := 404, attributes := #[] }, { accessFlags := 25, nameIndex := 485, descriptorIndex := 404, attributes := #[] }, { accessFlags := 25, nameIndex := 486, descriptorIndex := 404, attributes := #[] }, { accessFlags := 25, nameIndex := 487, descriptorIndex := 404, attributes := #[] }, { accessFlags := 25, nameIndex := 488, descriptorIndex := 404, attributes := #[] }, { accessFlags := 25, nameIndex := 489, descriptorIndex := 22, attributes := #[] }, { accessFlags := 25, nameIndex := 490, descriptorIndex := 22, attributes := #[] }, { accessFlags := 25, nameIndex := 492, descriptorIndex := 22, attributes := #[] }, { accessFlags := 25, nameIndex := 493, descriptorIndex := 22, attributes := #[] }, { accessFlags := 25, nameIndex := 495, descriptorIndex := 22, attributes := #[] }, { accessFlags := 25, nameIndex := 496, descriptorIndex := 22, attributes := #[] }, { accessFlags := 25, nameIndex := 497, descriptorIndex := 392, attributes := #[] }, { accessFlags := 25, nameIndex := 498, descriptorIndex := 392, attributes := #[] }, { accessFlags := 25, nameIndex := 499, descriptorIndex := 392, attributes := #[] }, { accessFlags := 18, nameIndex := 21, descriptorIndex := 22, attributes := #[] }, { accessFlags := 26, nameIndex := 501, descriptorIndex := 502, attributes := #[] }, { accessFlags := 25, nameIndex := 505, descriptorIndex := 392, attributes := #[] }, { accessFlags := 25, nameIndex := 506, descriptorIndex := 392, attributes := #[] }, { accessFlags := 4120, nameIndex := 284, descriptorIndex := 285, attributes := #[] }])
  fields := #[{ name := "MIN_RADIX", type := .int, accessFlags := 25, slot := 0, constantValue := 0 }, { name := "MAX_RADIX", type := .int, accessFlags := 25, slot := 1, constantValue := 0 }, { name := "MIN_VALUE", type := .char, accessFlags := 25, slot := 2, constantValue := 0 }, { name := "MAX_VALUE", type := .char, accessFlags := 25, slot := 3, constantValue := 0 }, { name := "TYPE", type := (.object "java/lang/Class"), accessFlags := 25, slot := 4, constantValue := 0 }, { name := "UNASSIGNED", type := .byte, accessFlags := 25, slot := 5, constantValue := 0 }, { name := "UPPERCASE_LETTER", type := .byte, accessFlags := 25, slot := 6, constantValue := 0 }, { name := "LOWERCASE_LETTER", type := .byte, accessFlags := 25, slot := 7, constantValue := 0 }, { name := "TITLECASE_LETTER", type := .byte, accessFlags := 25, slot := 8, constantValue := 0 }, { name := "MODIFIER_LETTER", type := .byte, accessFlags := 25, slot := 9, constantValue := 0 }, { name := "OTHER_LETTER", type := .byte, accessFlags := 25, slot := 10, constantValue := 0 }, { name := "NON_SPACING_MARK", type := .byte, accessFlags := 25, slot := 11, constantValue := 0 }, { name := "ENCLOSING_MARK", type := .byte, accessFlags := 25, slot := 12, constantValue := 0 }, { name := "COMBINING_SPACING_MARK", type := .byte, accessFlags := 25, slot := 13, constantValue := 0 }, { name := "DECIMAL_DIGIT_NUMBER", type := .byte, accessFlags := 25, slot := 14, constantValue := 0 }, { name := "LETTER_NUMBER", type := .byte, accessFlags := 25, slot := 15, constantValue := 0 }, { name := "OTHER_NUMBER", type := .byte, accessFlags := 25, slot := 16, constantValue := 0 }, { name := "SPACE_SEPARATOR", type := .byte, accessFlags := 25, slot := 17, constantValue := 0 }, { name := "LINE_SEPARATOR", type := .byte, accessFlags := 25, slot := 18, constantValue := 0 }, { name := "PARAGRAPH_SEPARATOR", type := .byte, accessFlags := 25, slot := 19, constantValue := 0 }, { name := "CONTROL", type := .byte, accessFlags := 25, slot := 20, constantValue := 0 }, { name := "FORMAT", type := .byte, accessFlags := 25, slot := 21, constantValue := 0 }, { name := "PRIVATE_USE", type := .byte, accessFlags := 25, slot := 22, constantValue := 0 }, { name := "SURROGATE", type := .byte, accessFlags := 25, slot := 23, constantValue := 0 }, { name := "DASH_PUNCTUATION", type := .byte, accessFlags := 25, slot := 24, constantValue := 0 }, { name := "START_PUNCTUATION", type := .byte, accessFlags := 25, slot := 25, constantValue := 0 }, { name := "END_PUNCTUATION", type := .byte, accessFlags := 25, slot := 26, constantValue := 0 }, { name := "CONNECTOR_PUNCTUATION", type := .byte, accessFlags := 25, slot := 27, constantValue := 0 }, { name := "OTHER_PUNCTUATION", type := .byte, accessFlags := 25, slot := 28, constantValue := 0 }, { name := "MATH_SYMBOL", type := .byte, accessFlags := 25, slot := 29, constantValue := 0 }, { name := "CURRENCY_SYMBOL", type := .byte, accessFlags := 25, slot := 30, constantValue := 0 }, { name := "MODIFIER_SYMBOL", type := .byte, accessFlags := 25, slot := 31, constantValue := 0 }, { name := "OTHER_SYMBOL", type := .byte, accessFlags := 25, slot := 32, constantValue := 0 }, { name := "INITIAL_QUOTE_PUNCTUATION", type := .byte, accessFlags := 25, slot := 33, constantValue := 0 }, { name := "FINAL_QUOTE_PUNCTUATION", type := .byte, accessFlags := 25, slot := 34, constantValue := 0 }, { name := "ERROR", type := .int, accessFlags := 24, slot := 35, constantValue := 0 }, { name := "DIRECTIONALITY_UNDEFINED", type := .byte, accessFlags := 25, slot := 36, constantValue := 0 }, { name := "DIRECTIONALITY_LEFT_TO_RIGHT", type := .byte, accessFlags := 25, slot := 37, constantValue := 0 }, { name := "DIRECTIONALITY_RIGHT_TO_LEFT", type := .byte, accessFlags := 25, slot := 38, constantValue := 0 }, { name := "DIRECTIONALITY_RIGHT_TO_LEFT_ARABIC", type := .byte, accessFlags := 25, slot := 39, constantValue := 0 }, { name := "DIRECTIONALITY_EUROPEAN_NUMBER", type := .byte, accessFlags := 25, slot := 40, constantValue := 0 }, { name := "DIRECTIONALITY_EUROPEAN_NUMBER_SEPARATOR", type := .byte, accessFlags := 25, slot := 41, constantValue := 0 }, { name := "DIRECTIONALITY_EUROPEAN_NUMBER_TERMINATOR", type := .byte, accessFlags := 25, slot := 42, constantValue := 0 }, { name := "DIRECTIONALITY_ARABIC_NUMBER", type := .byte, accessFlags := 25, slot := 43, constantValue := 0 }, { name := "DIRECTIONALITY_COMMON_NUMBER_SEPARATOR", type := .byte, accessFlags := 25, slot := 44, constantValue := 0 }, { name := "DIRECTIONALITY_NONSPACING_MARK", type := .byte, accessFlags := 25, slot := 45, constantValue := 0 }, { name := "DIRECTIONALITY_BOUNDARY_NEUTRAL", type := .byte, accessFlags := 25, slot := 46, constantValue := 0 }, { name := "DIRECTIONALITY_PARAGRAPH_SEPARATOR", type := .byte, accessFlags := 25, slot := 47, constantValue := 0 }, { name := "DIRECTIONALITY_SEGMENT_SEPARATOR", type := .byte, accessFlags := 25, slot := 48, constantValue := 0 }, { name := "DIRECTIONALITY_WHITESPACE", type := .byte, accessFlags := 25, slot := 49, constantValue := 0 }, { name := "DIRECTIONALITY_OTHER_NEUTRALS", type := .byte, accessFlags := 25, slot := 50, constantValue := 0 }, { name := "DIRECTIONALITY_LEFT_TO_RIGHT_EMBEDDING", type := .byte, accessFlags := 25, slot := 51, constantValue := 0 }, { name := "DIRECTIONALITY_LEFT_TO_RIGHT_OVERRIDE", type := .byte, accessFlags := 25, slot := 52, constantValue := 0 }, { name := "DIRECTIONALITY_RIGHT_TO_LEFT_EMBEDDING", type := .byte, accessFlags := 25, slot := 53, constantValue := 0 }, { name := "DIRECTIONALITY_RIGHT_TO_LEFT_OVERRIDE", type := .byte, accessFlags := 25, slot := 54, constantValue := 0 }, { name := "DIRECTIONALITY_POP_DIRECTIONAL_FORMAT", type := .byte, accessFlags := 25, slot := 55, constantValue := 0 }, { name := "DIRECTIONALITY_LEFT_TO_RIGHT_ISOLATE", type := .byte, accessFlags := 25, slot := 56, constantValue := 0 }, { name := "DIRECTIONALITY_RIGHT_TO_LEFT_ISOLATE", type := .byte, accessFlags := 25, slot := 57, constantValue := 0 }, { name := "DIRECTIONALITY_FIRST_STRONG_ISOLATE", type := .byte, accessFlags := 25, slot := 58, constantValue := 0 }, { name := "DIRECTIONALITY_POP_DIRECTIONAL_ISOLATE", type := .byte, accessFlags := 25, slot := 59, constantValue := 0 }, { name := "MIN_HIGH_SURROGATE", type := .char, accessFlags := 25, slot := 60, constantValue := 0 }, { name := "MAX_HIGH_SURROGATE", type := .char, accessFlags := 25, slot := 61, constantValue := 0 }, { name := "MIN_LOW_SURROGATE", type := .char, accessFlags := 25, slot := 62, constantValue := 0 }, { name := "MAX_LOW_SURROGATE", type := .char, accessFlags := 25, slot := 63, constantValue := 0 }, { name := "MIN_SURROGATE", type := .char, accessFlags := 25, slot := 64, constantValue := 0 }, { name := "MAX_SURROGATE", type := .char, accessFlags := 25, slot := 65, constantValue := 0 }, { name := "MIN_SUPPLEMENTARY_CODE_POINT", type := .int, accessFlags := 25, slot := 66, constantValue := 0 }, { name := "MIN_CODE_POINT", type := .int, accessFlags := 25, slot := 67, constantValue := 0 }, { name := "MAX_CODE_POINT", type := .int, accessFlags := 25, slot := 68, constantValue := 0 }, { name := "value", type := .char, accessFlags := 18, slot := 0, constantValue := 0 }, { name := "serialVersionUID", type := .long, accessFlags := 26, slot := 69, constantValue := 0 }, { name := "SIZE", type := .int, accessFlags := 25, slot := 70, constantValue := 0 }, { name := "BYTES", type := .int, accessFlags := 25, slot := 71, constantValue := 0 }, { name := "$assertionsDisabled", type := .boolean, accessFlags := 4120, slot := 72, constantValue := 0 }]
  methods := #[k24m0, k24m1, k24m2, k24m3]
  instanceTypes := #[.char]
  staticTypes := #[.int, .int, .char, .char, (.object "java/lang/Class"), .byte, .byte, .byte, .byte, .byte, .byte, .byte, .byte, .byte, .byte, .byte, .byte, .byte, .byte, .byte, .byte, .byte, .byte, .byte, .byte, .byte, .byte, .byte, .byte, .byte, .byte, .byte, .byte, .byte, .byte, .int, .byte, .byte, .byte, .byte, .byte, .byte, .byte, .byte, .byte, .byte, .byte, .byte, .byte, .byte, .byte, .byte, .byte, .byte, .byte, .byte, .byte, .byte, .byte, .byte, .char, .char, .char, .char, .char, .char, .int, .int, .int, .long, .int, .int, .boolean]
  resolved := Array.replicate 604 none
  statics := none }

def pool25 : Array CpInfo := pool [(1, .class_ 2), (0, u "java/lang/Math"), (1, .class_ 6), (1, u "java/lang/Object"), (0, u "<init>"), (0, u "()V"), (89, .class_ 100), (1, u "java/lang/Math$RandomNumberGeneratorHolder"), (71, u "negativeZeroFloatBits"), (0, u "J"), (2, u "negativeZeroDoubleBits"), (24, u "min"), (43, u "$assertionsDisabled"), (0, u "Z"), (88, u "(II)I"), (2, u "twoToTheDoubleScaleDown"), (0, u "D"), (4, u "twoToTheDoubleScaleUp"), (9, u "E"), (3, u "PI"), (2, u "TAU"), (2, u "DEGREES_TO_RADIANS"), (0, u "RADIANS_TO_DEGREES")] 94

def k25m0 : Method := { name := "<init>", desc := "()V", sig := { parameters := [], returnType := none }, accessFlags := 2, code := none }
def k25c1 : Code := { maxStack := 2, maxLocals := 2, code := jdk_29_method_69_code, exceptionTable := #[], attributes := #[] }
def k25m1 : Method := { name := "min", desc := "(II)I", sig := { parameters := [.int, .int], returnType := some .int }, accessFlags := 9, code := some k25c1 }
/-- java/lang/Math -/
def k25 : Class := { plain "java/lang/Math" (some 0) with
  accessFlags := 49
  interfaces := #[]
  cf := some (fileOf pool25 1 #[.nestMembers #[98]] #[{ accessFlags := 2, nameIndex := 7, descriptorIndex := 8, attributes := #[] }, { accessFlags := 9, nameIndex := 201, descriptorIndex := 335, attributes := #[] }] 49 4 #[] #[{ accessFlags := 25, nameIndex := 354, descriptorIndex := 339, attributes := #[] }, { accessFlags := 25, nameIndex := 358, descriptorIndex := 339, attributes := #[] }, { accessFlags := 25, nameIndex := 361, descriptorIndex := 339, attributes := #[] }, { accessFlags := 26, nameIndex := 364, descriptorIndex := 339, attributes := #[] }, { accessFlags := 26, nameIndex := 365, descriptorIndex := 339, attributes := #[] }, { accessFlags := 26, nameIndex := 172, descriptorIndex := 173, attributes := #[] }, { accessFlags := 26, nameIndex := 176, descriptorIndex := 173, attributes := #[] }, { accessFlags := 8, nameIndex := 344, descriptorIndex := 339, attributes := #[] }, { accessFlags := 8, nameIndex := 338, descriptorIndex := 339, attributes := #[] }, { accessFlags := 4120, nameIndex := 245, descriptorIndex := 246, attributes := #[] }])
  fields := #[{ name := "E", type := .double, accessFlags := 25, slot := 0, constantValue := 0 }, { name := "PI", type := .double, accessFlags := 25, slot := 1, constantValue := 0 }, { name := "TAU", type := .double, accessFlags := 25, slot := 2, constantValue := 0 }, { name := "DEGREES_TO_RADIANS", type := .double, accessFlags := 26, slot := 3, constantValue := 0 }, { name := "RADIANS_TO_DEGREES", type := .double, accessFlags := 26, slot := 4, constantValue := 0 }, { name := "negativeZeroFloatBits", type := .long, accessFlags := 26, slot := 5, constantValue := 0 }, { name := "negativeZeroDoubleBits", type := .long, accessFlags := 26, slot := 6, constantValue := 0 }, { name := "twoToTheDoubleScaleUp", type := .double, accessFlags := 8, slot := 7, constantValue := 0 }, { name := "twoToTheDoubleScaleDown", type := .double, accessFlags := 8, slot := 8, constantValue := 0 }, { name := "$assertionsDisabled", type := .boolean, accessFlags := 4120, slot := 9, constantValue := 0 }]
  methods := #[k25m0, k25m1]
  instanceTypes := #[]
  staticTypes := #[.double, .double, .double, .double, .double, .long, .long, .double, .double, .boolean]
  resolved := Array.replicate 460 none
  statics := none }

def pool26 : Array CpInfo := pool [(2, .class_ 4), (1, u "java/lang/Object"), (0, u "<init>"), (0, u "()V"), (1, .class_ 10), (1, u "java/lang/System"), (0, u "allowSecurityManager"), (0, u "I"), (16, u "cons"), (0, u "Ljava/io/Console;"), (77, .class_ 110), (1, u "java/lang/System$CallersHolder"), (43, u "initialErrStream"), (0, u "Ljava/io/PrintStream;"), (19, u "security"), (0, u "Ljava/lang/SecurityManager;"), (31, .class_ 209), (0, u "java/lang/System$1"), (7, u "props"), (0, u "Ljava/util/Properties;"), (2, u "lineSeparator"), (0, u "Ljava/lang/String;"), (96, .class_ 321), (1, u "java/lang/System$LoggerFinder"), (5, .class_ 328), (0, u "java/lang/System$Logger"), (67, u "err"), (2, u "out"), (91, u "notSupportedJnuEncoding"), (15, u "in"), (17, u "initialIn"), (0, u "Ljava/io/InputStream;"), (35, u "bootLayer"), (0, u "Ljava/lang/ModuleLayer;"), (99, .class_ 664), (0, u "java/lang/System$2"), (9, u "NEVER"), (2, u "MAYBE"), (49, u "arraycopy"), (0, u "(Ljava/lang/Object;ILjava/lang/Object;II)V"), (72, .class_ 802), (0, u "java/lang/System$Logger$Level")] 31

def k26m0 : Method := { name := "<init>", desc := "()V", sig := { parameters := [], returnType := none }, accessFlags := 2, code := none }
def k26m1 : Method := { name := "arraycopy", desc := "(Ljava/lang/Object;ILjava/lang/Object;II)V", sig := { parameters := [(.object "java/lang/Object"), .int, (.object "java/lang/Object"), .int, .int], returnType := none }, accessFlags := 265, code := none }
/-- java/lang/System -/
def k26 : Class := { plain "java/lang/System" (some 0) with
  accessFlags := 49
  interfaces := #[]
  cf := some (fileOf pool26 8 #[.nestMembers #[319, 327, 801, 108, 663, 208]] #[{ accessFlags := 2, nameIndex := 5, descriptorIndex := 6, attributes := #[] }, { accessFlags := 265, nameIndex := 727, descriptorIndex := 728, attributes := #[] }] 49 2 #[] #[{ accessFlags := 25, nameIndex := 507, descriptorIndex := 526, attributes := #[] }, { accessFlags := 25, nameIndex := 399, descriptorIndex := 155, attributes := #[] }, { accessFlags := 25, nameIndex := 396, descriptorIndex := 155, attributes := #[] }, { accessFlags := 10, nameIndex := 525, descriptorIndex := 526, attributes := #[] }, { accessFlags := 26, nameIndex := 674, descriptorIndex := 12, attributes := #[] }, { accessFlags := 26, nameIndex := 677, descriptorIndex := 12, attributes := #[] }, { accessFlags := 10, nameIndex := 11, descriptorIndex := 12, attributes := #[] }, { accessFlags := 74, nameIndex := 175, descriptorIndex := 176, attributes := #[] }, { accessFlags := 10, nameIndex := 491, descriptorIndex := 222, attributes := #[] }, { accessFlags := 74, nameIndex := 29, descriptorIndex := 30, attributes := #[] }, { accessFlags := 74, nameIndex := 154, descriptorIndex := 155, attributes := #[] }, { accessFlags := 10, nameIndex := 217, descriptorIndex := 218, attributes := #[] }, { accessFlags := 10, nameIndex := 221, descriptorIndex := 222, attributes := #[] }, { accessFlags := 8, nameIndex := 562, descriptorIndex := 563, attributes := #[] }])
  fields := #[{ name := "in", type := (.object "java/io/InputStream"), accessFlags := 25, slot := 0, constantValue := 0 }, { name := "out", type := (.object "java/io/PrintStream"), accessFlags := 25, slot := 1, constantValue := 0 }, { name := "err", type := (.object "java/io/PrintStream"), accessFlags := 25, slot := 2, constantValue := 0 }, { name := "initialIn", type := (.object "java/io/InputStream"), accessFlags := 10, slot := 3, constantValue := 0 }, { name := "NEVER", type := .int, accessFlags := 26, slot := 4, constantValue := 0 }, { name := "MAYBE", type := .int, accessFlags := 26, slot := 5, constantValue := 0 }, { name := "allowSecurityManager", type := .int, accessFlags := 10, slot := 6, constantValue := 0 }, { name := "security", type := (.object "java/lang/SecurityManager"), accessFlags := 74, slot := 7, constantValue := 0 }, { name := "notSupportedJnuEncoding", type := (.object "java/lang/String"), accessFlags := 10, slot := 8, constantValue := 0 }, { name := "cons", type := (.object "java/io/Console"), accessFlags := 74, slot := 9, constantValue := 0 }, { name := "initialErrStream", type := (.object "java/io/PrintStream"), accessFlags := 74, slot := 10, constantValue := 0 }, { name := "props", type := (.object "java/util/Properties"), accessFlags := 10, slot := 11, constantValue := 0 }, { name := "lineSeparator", type := (.object "java/lang/String"), accessFlags := 10, slot := 12, constantValue := 0 }, { name := "bootLayer", type := (.object "java/lang/ModuleLayer"), accessFlags := 8, slot := 13, constantValue := 0 }]
  methods := #[k26m0, k26m1]
  instanceTypes := #[]
  staticTypes := #[(.object "java/io/InputStream"), (.object "java/io/PrintStream"), (.object "java/io/PrintStream"), (.object "java/io/InputStream"), .int, .int, .int, (.object "java/lang/SecurityManager"), (.object "java/lang/String"), (.object "java/io/Console"), (.object "java/io/PrintStream"), (.object "java/util/Properties"), (.object "java/lang/String"), (.object "java/lang/ModuleLayer")]
  resolved := Array.replicate 834 none
  statics := none }

def pool27 : Array CpInfo := pool [(9, u "<init>"), (6, .class_ 18), (1, u "java/lang/Object"), (0, u "()V"), (1, .class_ 23), (1, u "jdk/internal/util/ArraysSupport"), (0, u "LOG2_ARRAY_LONG_INDEX_SCALE"), (0, u "I"), (2, u "U"), (0, u "Ljdk/internal/misc/Unsafe;"), (8, u "BIG_ENDIAN"), (0, u "Z"), (8, u "LOG2_BYTE_BIT_SIZE"), (4, u "LOG2_ARRAY_INT_INDEX_SCALE"), (54, u "JLA"), (0, u "Ljdk/internal/access/JavaLangAccess;"), (11, u "LOG2_ARRAY_BOOLEAN_INDEX_SCALE"), (9, u "LOG2_ARRAY_BYTE_INDEX_SCALE"), (5, u "LOG2_ARRAY_CHAR_INDEX_SCALE"), (5, u "LOG2_ARRAY_SHORT_INDEX_SCALE"), (18, u "LOG2_ARRAY_FLOAT_INDEX_SCALE"), (24, u "LOG2_ARRAY_DOUBLE_INDEX_SCALE"), (89, u "T_BOOLEAN"), (2, u "T_CHAR"), (1, u "T_FLOAT"), (1, u "T_DOUBLE"), (1, u "T_BYTE"), (1, u "T_SHORT"), (1, u "T_INT"), (1, u "T_LONG"), (1, u "SOFT_MAX_ARRAY_LENGTH")] 83

def k27m0 : Method := { name := "<init>", desc := "()V", sig := { parameters := [], returnType := none }, accessFlags := 2, code := none }
/-- jdk/internal/util/ArraysSupport -/
def k27 : Class := { plain "jdk/internal/util/ArraysSupport" (some 0) with
  accessFlags := 33
  interfaces := #[]
  cf := some (fileOf pool27 21 #[] #[{ accessFlags := 2, nameIndex := 9, descriptorIndex := 19, attributes := #[] }] 33 16 #[] #[{ accessFlags := 24, nameIndex := 28, descriptorIndex := 29, attributes := #[] }, { accessFlags := 26, nameIndex := 38, descriptorIndex := 39, attributes := #[] }, { accessFlags := 25, nameIndex := 121, descriptorIndex := 25, attributes := #[] }, { accessFlags := 25, nameIndex := 131, descriptorIndex := 25, attributes := #[] }, { accessFlags := 25, nameIndex := 137, descriptorIndex := 25, attributes := #[] }, { accessFlags := 25, nameIndex := 143, descriptorIndex := 25, attributes := #[] }, { accessFlags := 25, nameIndex := 53, descriptorIndex := 25, attributes := #[] }, { accessFlags := 25, nameIndex := 24, descriptorIndex := 25, attributes := #[] }, { accessFlags := 25, nameIndex := 162, descriptorIndex := 25, attributes := #[] }, { accessFlags := 25, nameIndex := 187, descriptorIndex := 25, attributes := #[] }, { accessFlags := 26, nameIndex := 48, descriptorIndex := 25, attributes := #[] }, { accessFlags := 25, nameIndex := 277, descriptorIndex := 25, attributes := #[] }, { accessFlags := 25, nameIndex := 280, descriptorIndex := 25, attributes := #[] }, { accessFlags := 25, nameIndex := 282, descriptorIndex := 25, attributes := #[] }, { accessFlags := 25, nameIndex := 284, descriptorIndex := 25, attributes := #[] }, { accessFlags := 25, nameIndex := 286, descriptorIndex := 25, attributes := #[] }, { accessFlags := 25, nameIndex := 288, descriptorIndex := 25, attributes := #[] }, { accessFlags := 25, nameIndex := 290, descriptorIndex := 25, attributes := #[] }, { accessFlags := 25, nameIndex := 292, descriptorIndex := 25, attributes := #[] }, { accessFlags := 26, nameIndex := 108, descriptorIndex := 109, attributes := #[] }, { accessFlags := 25, nameIndex := 294, descriptorIndex := 25, attributes := #[] }])
  fields := #[{ name := "U", type := (.object "jdk/internal/misc/Unsafe"), accessFlags := 24, slot := 0, constantValue := 0 }, { name := "BIG_ENDIAN", type := .boolean, accessFlags := 26, slot := 1, constantValue := 0 }, { name := "LOG2_ARRAY_BOOLEAN_INDEX_SCALE", type := .int, accessFlags := 25, slot := 2, constantValue := 0 }, { name := "LOG2_ARRAY_BYTE_INDEX_SCALE", type := .int, accessFlags := 25, slot := 3, constantValue := 0 }, { name := "LOG2_ARRAY_CHAR_INDEX_SCALE", type := .int, accessFlags := 25, slot := 4, constantValue := 0 }, { name := "LOG2_ARRAY_SHORT_INDEX_SCALE", type := .int, accessFlags := 25, slot := 5, constantValue := 0 }, { name := "LOG2_ARRAY_INT_INDEX_SCALE", type := .int, accessFlags := 25, slot := 6, constantValue := 0 }, { name := "LOG2_ARRAY_LONG_INDEX_SCALE", type := .int, accessFlags := 25, slot := 7, constantValue := 0 }, { name := "LOG2_ARRAY_FLOAT_INDEX_SCALE", type := .int, accessFlags := 25, slot := 8, constantValue := 0 }, { name := "LOG2_ARRAY_DOUBLE_INDEX_SCALE", type := .int, accessFlags := 25, slot := 9, constantValue := 0 }, { name := "LOG2_BYTE_BIT_SIZE", type := .int, accessFlags := 26, slot := 10, constantValue := 0 }, { name := "T_BOOLEAN", type := .int, accessFlags := 25, slot := 11, constantValue := 0 }, { name := "T_CHAR", type := .int, accessFlags := 25, slot := 12, constantValue := 0 }, { name := "T_FLOAT", type := .int, accessFlags := 25, slot := 13, constantValue := 0 }, { name := "T_DOUBLE", type := .int, accessFlags := 25, slot := 14, constantValue := 0 }, { name := "T_BYTE", type := .int, accessFlags := 25, slot := 15, constantValue := 0 }, { name := "T_SHORT", type := .int, accessFlags := 25, slot := 16, constantValue := 0 }, { name := "T_INT", type := .int, accessFlags := 25, slot := 17, constantValue := 0 }, { name := "T_LONG", type := .int, accessFlags := 25, slot := 18, constantValue := 0 }, { name := "JLA", type := (.object "jdk/internal/access/JavaLangAccess"), accessFlags := 26, slot := 19, constantValue := 0 }, { name := "SOFT_MAX_ARRAY_LENGTH", type := .int, accessFlags := 25, slot := 20, constantValue := 0 }]
  methods := #[k27m0]
  instanceTypes := #[]
  staticTypes := #[(.object "jdk/internal/misc/Unsafe"), .boolean, .int, .int, .int, .int, .int, .int, .int, .int, .int, .int, .int, .int, .int, .int, .int, .int, .int, (.object "jdk/internal/access/JavaLangAccess"), .int]
  resolved := Array.replicate 378 none
  statics := none }

/-- the primitive byte -/
def k28 : Class := { plain "byte" none with kind := .primitive 'B', accessFlags := 0x411 }
/-- [B -/
def k29 : Class := { plain "[B" (some 0) with kind := .array 28 .byte, interfaces := #[20, 4], accessFlags := 1041 }

/-- the primitive char -/
def k30 : Class := { plain "char" none with kind := .primitive 'C', accessFlags := 0x411 }
/-- [C -/
def k31 : Class := { plain "[C" (some 0) with kind := .array 30 .char, interfaces := #[20, 4], accessFlags := 1041 }

/-- the primitive int -/
def k32 : Class := { plain "int" none with kind := .primitive 'I', accessFlags := 0x411 }
/-- [I -/
def k33 : Class := { plain "[I" (some 0) with kind := .array 32 .int, interfaces := #[20, 4], accessFlags := 1041 }

def heap : Heap := #[{ cls := 6, slots := #[.ref 7, .ref 6, .ref 10, .ref 9, .ref 8, .null], vm := .statics 6 },
  { cls := 11, slots := #[.long 0, .int 1, .null, .int 0, .null, .int 0, .int 0], vm := .statics 11 },
  { cls := 13, slots := #[.null, .null, .ref 11, .null, .null, .null], vm := .statics 13 },
  { cls := 17, slots := #[.ref 11, .null], vm := .statics 17 },
  { cls := 21, slots := #[.int 0, .int 8, .int 0, .int 1], vm := .statics 21 },
  { cls := 23, slots := #[.null, .null, .null], vm := .statics 23 },
  { cls := 6, slots := #[.null, .int 0, .int 0], vm := .none },
  { cls := 6, slots := #[.null, .int 0, .int 0], vm := .none },
  { cls := 6, slots := #[.null, .int 0, .int 0], vm := .none },
  { cls := 6, slots := #[.null, .int 0, .int 0], vm := .none },
  { cls := 6, slots := #[.null, .int 0, .int 0], vm := .none },
  { cls := 17, slots := #[.null, .null, .null], vm := .none }]
def classes : Array Class := #[k0, k1, k2, k3, k4, k5, k6, k7, k8, k9, k10, k11, k12, k13, k14, k15, k16, k17, k18, k19, k20, k21, k22, k23, k24, k25, k26, k27, k28, k29, k30, k31, k32, k33]
def interned : List (Array UInt16 × Addr) := []
def slotsUsed : Nat := 46
def theMethod : MethodId := ⟨1, 2⟩
def args0 : Array Value := #[.int 2, .int 65, .int 66, .int 67, .int 68]
def aboutOver (below : List Frame) : State where
  vm := { classes := classes, interned := interned.toArray }
  heap := heap
  slotsUsed := slotsUsed
  threads := #[{ frames := .invoking theMethod args0 :: below }]
def below0 : List Frame := [.native { method := ⟨0, 0⟩, args := #[] }]
def about1 : State := aboutOver below0
def p0 : Program := .bare "" "" ""
def e0 : Env := launch0.env 0 0 0
theorem w_frames : about1.frames = Frame.invoking theMethod args0 :: below0 := rfl
set_option maxRecDepth 65536 in
theorem w_args : argsFit about1.vm theMethod args0 = true := by decide +kernel
set_option maxRecDepth 65536 in
theorem w_heap : heapFits about1 = true := by decide +kernel
set_option maxRecDepth 65536 in
theorem w_runnable : about1.curStatus? = some .runnable := by decide +kernel
set_option maxRecDepth 65536 in
theorem w_alone : about1.alone = true := by decide +kernel
set_option maxRecDepth 65536 in
theorem w_named : about1.methodNamed? x = some theMethod := by decide +kernel
set_option maxRecDepth 65536 in
theorem w_hears : about1.hears theMethod below0 = true := by decide +kernel
set_option maxRecDepth 65536 in
theorem w_ripe : about1.ripe theMethod args0 below0 = true := by decide +kernel
theorem w_running : about1.status = .running := rfl
set_option maxRecDepth 65536 in
theorem w_room : about1.hasRoom e0.platform room_1 = true :=
  launch0.hasRoom_least _ room_1 (by decide +kernel) (by decide +kernel) (by decide +kernel) (by decide +kernel) (by decide +kernel) (by decide +kernel)
theorem allAtoms_all (ts : List Jvm.Cond) (a : Array Jvm.Value) (st : Jvm.State) : (allAtoms ts).before a st = ts.all (fun c => c.before a st) := by
  induction ts with
  | nil => rfl
  | cons c t ih =>
    show (Jvm.Cond.and c (allAtoms t)).before a st = _
    rw [Jvm.Cond.before_and, ih, List.all_cons]
def words1 : List Jvm.Cond := Jvm.Cond.code x code maxLocals ret :: tables_1
/-- a 'code' word, met by the world's own term for the bytes: nothing is compared byte by byte -/
theorem code_word {y : MethodName} {bytes : ByteArray} {mx : Nat} {rt : Option FieldType} {a : Array Value} {s : State} {m : MethodId} {meth : Method} {c : Code} (h1 : s.methodNamed? y = some m) (h2 : s.vm.method? m = some meth) (h3 : meth.code = some c) (h4 : c.code = bytes)
    (h5 : (c.maxLocals == mx && c.exceptionTable.isEmpty && decide (c.maxStack ≤ mostOperands) && decide (meth.sig.returnType = rt) && !meth.locks && decide (parseMethodDescriptor y.desc = some meth.sig)) = true) : (Jvm.Cond.code y bytes mx rt).before a s = true := by
  simp only [Bool.and_eq_true, beq_iff_eq, Bool.not_eq_true', decide_eq_true_eq] at h5
  obtain ⟨⟨⟨⟨⟨g1, g2⟩, g3⟩, g4⟩, g5⟩, g6⟩ := h5
  simp [Cond.before, Cond.holds, Cond.value, h1, h2, h3, h4, g1, g2, g3, g4, g5, g6]
def isCode : Jvm.Cond → Bool
  | .code _ _ _ _ => true
  | _ => false
theorem all_split {L : List Jvm.Cond} {P : Jvm.Cond → Bool} (h1 : L.all (fun c => isCode c || P c) = true) (h2 : ∀ c ∈ L.filter isCode, P c = true) : L.all P = true := by
  refine List.all_eq_true.mpr fun c hc => ?_
  have h := List.all_eq_true.mp h1 c hc
  rcases Bool.eq_false_or_eq_true (isCode c) with hi | hi
  · exact h2 c (List.mem_filter.mpr ⟨hc, hi⟩)
  · simpa [hi] using h
set_option maxRecDepth 65536 in
theorem w_c0 : (Jvm.Cond.code x code maxLocals ret).before args0 about1 = true := code_word (m := ⟨1, 2⟩) (meth := k1m2) (c := k1c2) (by decide +kernel) rfl rfl rfl (by decide +kernel)
set_option maxRecDepth 65536 in
theorem w_c1 : (Jvm.Cond.code ({ cls := "com/example/attenuation/attenuation/core/OutcomeTextPinLaw", name := "status", desc := "(I)Lcom/example/attenuation/attenuation/core/Outcome$Status;" } : Jvm.MethodName) method_2_code (2 : Nat) (Option.some (Jvm.ClassFile.FieldType.object "com/example/attenuation/attenuation/core/Outcome$Status"))).before args0 about1 = true := code_word (m := ⟨1, 1⟩) (meth := k1m1) (c := k1c1) (by decide +kernel) rfl rfl rfl (by decide +kernel)
set_option maxRecDepth 65536 in
theorem w_c2 : (Jvm.Cond.code ({ cls := "com/example/attenuation/attenuation/core/Outcome", name := "<init>", desc := "(Lcom/example/attenuation/attenuation/core/Outcome$Status;[B)V" } : Jvm.MethodName) prog_16_method_1_code (3 : Nat) (Option.none : Option Jvm.ClassFile.FieldType)).before args0 about1 = true := code_word (m := ⟨8, 0⟩) (meth := k8m0) (c := k8c0) (by decide +kernel) rfl rfl rfl (by decide +kernel)
set_option maxRecDepth 65536 in
theorem w_c3 : (Jvm.Cond.code ({ cls := "java/lang/Record", name := "<init>", desc := "()V" } : Jvm.MethodName) jdk_30_method_1_code (1 : Nat) (Option.none : Option Jvm.ClassFile.FieldType)).before args0 about1 = true := code_word (m := ⟨7, 0⟩) (meth := k7m0) (c := k7c0) (by decide +kernel) rfl rfl rfl (by decide +kernel)
set_option maxRecDepth 65536 in
theorem w_c4 : (Jvm.Cond.code ({ cls := "java/lang/Object", name := "<init>", desc := "()V" } : Jvm.MethodName) object_method_1_code (1 : Nat) (Option.none : Option Jvm.ClassFile.FieldType)).before args0 about1 = true := code_word (m := ⟨0, 0⟩) (meth := k0m0) (c := k0c0) (by decide +kernel) rfl rfl rfl (by decide +kernel)
set_option maxRecDepth 65536 in
theorem w_c5 : (Jvm.Cond.code ({ cls := "java/util/Objects", name := "requireNonNull", desc := "(Ljava/lang/Object;Ljava/lang/String;)Ljava/lang/Object;" } : Jvm.MethodName) jdk_31_method_11_code (2 : Nat) (Option.some (Jvm.ClassFile.FieldType.object "java/lang/Object"))).before args0 about1 = true := code_word (m := ⟨12, 2⟩) (meth := k12m2) (c := k12c2) (by decide +kernel) rfl rfl rfl (by decide +kernel)
set_option maxRecDepth 65536 in
theorem w_c6 : (Jvm.Cond.code ({ cls := "com/example/attenuation/attenuation/core/Outcome", name := "text", desc := "()Ljava/lang/String;" } : Jvm.MethodName) prog_16_method_10_code (1 : Nat) (Option.some (Jvm.ClassFile.FieldType.object "java/lang/String"))).before args0 about1 = true := code_word (m := ⟨8, 1⟩) (meth := k8m1) (c := k8c1) (by decide +kernel) rfl rfl rfl (by decide +kernel)
set_option maxRecDepth 65536 in
theorem w_c7 : (Jvm.Cond.code ({ cls := "java/lang/String", name := "<init>", desc := "([BLjava/nio/charset/Charset;)V" } : Jvm.MethodName) jdk_42_method_49_code (3 : Nat) (Option.none : Option Jvm.ClassFile.FieldType)).before args0 about1 = true := code_word (m := ⟨11, 10⟩) (meth := k11m10) (c := k11c10) (by decide +kernel) rfl rfl rfl (by decide +kernel)
set_option maxRecDepth 65536 in
theorem w_c8 : (Jvm.Cond.code ({ cls := "java/util/Objects", name := "requireNonNull", desc := "(Ljava/lang/Object;)Ljava/lang/Object;" } : Jvm.MethodName) jdk_31_method_10_code (1 : Nat) (Option.some (Jvm.ClassFile.FieldType.object "java/lang/Object"))).before args0 about1 = true := code_word (m := ⟨12, 1⟩) (meth := k12m1) (c := k12c1) (by decide +kernel) rfl rfl rfl (by decide +kernel)
set_option maxRecDepth 65536 in
theorem w_c9 : (Jvm.Cond.code ({ cls := "java/lang/StringCoding", name := "countPositives", desc := "([BII)I" } : Jvm.MethodName) jdk_123_method_3_code (5 : Nat) (Option.some Jvm.ClassFile.FieldType.int)).before args0 about1 = true := code_word (m := ⟨18, 1⟩) (meth := k18m1) (c := k18c1) (by decide +kernel) rfl rfl rfl (by decide +kernel)
set_option maxRecDepth 65536 in
theorem w_c10 : (Jvm.Cond.code ({ cls := "java/util/Arrays", name := "copyOfRange", desc := "([BII)[B" } : Jvm.MethodName) jdk_65_method_132_code (3 : Nat) (Option.some (Jvm.ClassFile.FieldType.array Jvm.ClassFile.FieldType.byte))).before args0 about1 = true := code_word (m := ⟨19, 2⟩) (meth := k19m2) (c := k19c2) (by decide +kernel) rfl rfl rfl (by decide +kernel)
set_option maxRecDepth 65536 in
theorem w_c11 : (Jvm.Cond.code ({ cls := "java/lang/StringUTF16", name := "newBytesFor", desc := "(I)[B" } : Jvm.MethodName) jdk_52_method_2_code (1 : Nat) (Option.some (Jvm.ClassFile.FieldType.array Jvm.ClassFile.FieldType.byte))).before args0 about1 = true := code_word (m := ⟨21, 1⟩) (meth := k21m1) (c := k21c1) (by decide +kernel) rfl rfl rfl (by decide +kernel)
set_option maxRecDepth 65536 in
theorem w_c12 : (Jvm.Cond.code ({ cls := "java/lang/StringUTF16", name := "newBytesLength", desc := "(I)I" } : Jvm.MethodName) jdk_52_method_3_code (1 : Nat) (Option.some Jvm.ClassFile.FieldType.int)).before args0 about1 = true := code_word (m := ⟨21, 2⟩) (meth := k21m2) (c := k21c2) (by decide +kernel) rfl rfl rfl (by decide +kernel)
set_option maxRecDepth 65536 in
theorem w_c13 : (Jvm.Cond.code ({ cls := "java/lang/StringLatin1", name := "inflate", desc := "([BI[BII)V" } : Jvm.MethodName) jdk_43_method_50_code (5 : Nat) (Option.none : Option Jvm.ClassFile.FieldType)).before args0 about1 = true := code_word (m := ⟨22, 2⟩) (meth := k22m2) (c := k22c2) (by decide +kernel) rfl rfl rfl (by decide +kernel)
set_option maxRecDepth 65536 in
theorem w_c14 : (Jvm.Cond.code ({ cls := "java/lang/StringUTF16", name := "inflate", desc := "([BI[BII)V" } : Jvm.MethodName) jdk_52_method_86_code (6 : Nat) (Option.none : Option Jvm.ClassFile.FieldType)).before args0 about1 = true := code_word (m := ⟨21, 10⟩) (meth := k21m10) (c := k21c10) (by decide +kernel) rfl rfl rfl (by decide +kernel)
set_option maxRecDepth 65536 in
theorem w_c15 : (Jvm.Cond.code ({ cls := "java/lang/StringUTF16", name := "checkBoundsOffCount", desc := "(II[B)V" } : Jvm.MethodName) jdk_52_method_94_code (3 : Nat) (Option.none : Option Jvm.ClassFile.FieldType)).before args0 about1 = true := code_word (m := ⟨21, 11⟩) (meth := k21m11) (c := k21c11) (by decide +kernel) rfl rfl rfl (by decide +kernel)
set_option maxRecDepth 65536 in
theorem w_c16 : (Jvm.Cond.code ({ cls := "java/lang/StringUTF16", name := "length", desc := "([B)I" } : Jvm.MethodName) jdk_52_method_6_code (1 : Nat) (Option.some Jvm.ClassFile.FieldType.int)).before args0 about1 = true := code_word (m := ⟨21, 5⟩) (meth := k21m5) (c := k21c5) (by decide +kernel) rfl rfl rfl (by decide +kernel)
set_option maxRecDepth 65536 in
theorem w_c17 : (Jvm.Cond.code ({ cls := "java/lang/String", name := "checkBoundsOffCount", desc := "(III)I" } : Jvm.MethodName) jdk_42_method_157_code (3 : Nat) (Option.some Jvm.ClassFile.FieldType.int)).before args0 about1 = true := code_word (m := ⟨11, 13⟩) (meth := k11m13) (c := k11c13) (by decide +kernel) rfl rfl rfl (by decide +kernel)
set_option maxRecDepth 65536 in
theorem w_c18 : (Jvm.Cond.code ({ cls := "jdk/internal/util/Preconditions", name := "checkFromIndexSize", desc := "(IIILjava/util/function/BiFunction;)I" } : Jvm.MethodName) jdk_41_method_13_code (4 : Nat) (Option.some Jvm.ClassFile.FieldType.int)).before args0 about1 = true := code_word (m := ⟨23, 1⟩) (meth := k23m1) (c := k23c1) (by decide +kernel) rfl rfl rfl (by decide +kernel)
set_option maxRecDepth 65536 in
theorem w_c19 : (Jvm.Cond.code ({ cls := "java/lang/StringUTF16", name := "putChar", desc := "([BII)V" } : Jvm.MethodName) jdk_52_method_4_code (3 : Nat) (Option.none : Option Jvm.ClassFile.FieldType)).before args0 about1 = true := code_word (m := ⟨21, 3⟩) (meth := k21m3) (c := k21c3) (by decide +kernel) rfl rfl rfl (by decide +kernel)
set_option maxRecDepth 65536 in
theorem w_c20 : (Jvm.Cond.code ({ cls := "java/lang/String", name := "decodeUTF8_UTF16", desc := "([BII[BIZ)I" } : Jvm.MethodName) jdk_42_method_38_code (11 : Nat) (Option.some Jvm.ClassFile.FieldType.int)).before args0 about1 = true := code_word (m := ⟨11, 9⟩) (meth := k11m9) (c := k11c9) (by decide +kernel) rfl rfl rfl (by decide +kernel)
set_option maxRecDepth 65536 in
theorem w_c21 : (Jvm.Cond.code ({ cls := "java/lang/String", name := "decode4", desc := "(IIII)I" } : Jvm.MethodName) jdk_42_method_37_code (4 : Nat) (Option.some Jvm.ClassFile.FieldType.int)).before args0 about1 = true := code_word (m := ⟨11, 8⟩) (meth := k11m8) (c := k11c8) (by decide +kernel) rfl rfl rfl (by decide +kernel)
set_option maxRecDepth 65536 in
theorem w_c22 : (Jvm.Cond.code ({ cls := "java/lang/String", name := "isMalformed4", desc := "(III)Z" } : Jvm.MethodName) jdk_42_method_32_code (3 : Nat) (Option.some Jvm.ClassFile.FieldType.boolean)).before args0 about1 = true := code_word (m := ⟨11, 5⟩) (meth := k11m5) (c := k11c5) (by decide +kernel) rfl rfl rfl (by decide +kernel)
set_option maxRecDepth 65536 in
theorem w_c23 : (Jvm.Cond.code ({ cls := "java/lang/Character", name := "isSupplementaryCodePoint", desc := "(I)Z" } : Jvm.MethodName) jdk_89_method_13_code (1 : Nat) (Option.some Jvm.ClassFile.FieldType.boolean)).before args0 about1 = true := code_word (m := ⟨24, 0⟩) (meth := k24m0) (c := k24c0) (by decide +kernel) rfl rfl rfl (by decide +kernel)
set_option maxRecDepth 65536 in
theorem w_c24 : (Jvm.Cond.code ({ cls := "java/lang/Character", name := "highSurrogate", desc := "(I)C" } : Jvm.MethodName) jdk_89_method_28_code (1 : Nat) (Option.some Jvm.ClassFile.FieldType.char)).before args0 about1 = true := code_word (m := ⟨24, 2⟩) (meth := k24m2) (c := k24c2) (by decide +kernel) rfl rfl rfl (by decide +kernel)
set_option maxRecDepth 65536 in
theorem w_c25 : (Jvm.Cond.code ({ cls := "java/lang/Character", name := "lowSurrogate", desc := "(I)C" } : Jvm.MethodName) jdk_89_method_29_code (1 : Nat) (Option.some Jvm.ClassFile.FieldType.char)).before args0 about1 = true := code_word (m := ⟨24, 3⟩) (meth := k24m3) (c := k24c3) (by decide +kernel) rfl rfl rfl (by decide +kernel)
set_option maxRecDepth 65536 in
theorem w_c26 : (Jvm.Cond.code ({ cls := "java/util/Arrays", name := "copyOf", desc := "([BI)[B" } : Jvm.MethodName) jdk_65_method_121_code (3 : Nat) (Option.some (Jvm.ClassFile.FieldType.array Jvm.ClassFile.FieldType.byte))).before args0 about1 = true := code_word (m := ⟨19, 1⟩) (meth := k19m1) (c := k19c1) (by decide +kernel) rfl rfl rfl (by decide +kernel)
set_option maxRecDepth 65536 in
theorem w_c27 : (Jvm.Cond.code ({ cls := "java/lang/Math", name := "min", desc := "(II)I" } : Jvm.MethodName) jdk_29_method_69_code (2 : Nat) (Option.some Jvm.ClassFile.FieldType.int)).before args0 about1 = true := code_word (m := ⟨25, 1⟩) (meth := k25m1) (c := k25c1) (by decide +kernel) rfl rfl rfl (by decide +kernel)
set_option maxRecDepth 65536 in
theorem w_c28 : (Jvm.Cond.code ({ cls := "java/lang/String", name := "<init>", desc := "([C)V" } : Jvm.MethodName) jdk_42_method_3_code (2 : Nat) (Option.none : Option Jvm.ClassFile.FieldType)).before args0 about1 = true := code_word (m := ⟨11, 1⟩) (meth := k11m1) (c := k11c1) (by decide +kernel) rfl rfl rfl (by decide +kernel)
set_option maxRecDepth 65536 in
theorem w_c29 : (Jvm.Cond.code ({ cls := "java/lang/String", name := "<init>", desc := "([CIILjava/lang/Void;)V" } : Jvm.MethodName) jdk_42_method_149_code (6 : Nat) (Option.none : Option Jvm.ClassFile.FieldType)).before args0 about1 = true := code_word (m := ⟨11, 12⟩) (meth := k11m12) (c := k11c12) (by decide +kernel) rfl rfl rfl (by decide +kernel)
set_option maxRecDepth 65536 in
theorem w_c30 : (Jvm.Cond.code ({ cls := "java/lang/StringUTF16", name := "compress", desc := "([CII)[B" } : Jvm.MethodName) jdk_52_method_16_code (6 : Nat) (Option.some (Jvm.ClassFile.FieldType.array Jvm.ClassFile.FieldType.byte))).before args0 about1 = true := code_word (m := ⟨21, 8⟩) (meth := k21m8) (c := k21c8) (by decide +kernel) rfl rfl rfl (by decide +kernel)
set_option maxRecDepth 65536 in
theorem w_c31 : (Jvm.Cond.code ({ cls := "java/lang/StringUTF16", name := "compress", desc := "([CI[BII)I" } : Jvm.MethodName) jdk_52_method_21_code (7 : Nat) (Option.some Jvm.ClassFile.FieldType.int)).before args0 about1 = true := code_word (m := ⟨21, 9⟩) (meth := k21m9) (c := k21c9) (by decide +kernel) rfl rfl rfl (by decide +kernel)
set_option maxRecDepth 65536 in
theorem w_c32 : (Jvm.Cond.code ({ cls := "java/lang/StringUTF16", name := "toBytes", desc := "([CII)[B" } : Jvm.MethodName) jdk_52_method_14_code (5 : Nat) (Option.some (Jvm.ClassFile.FieldType.array Jvm.ClassFile.FieldType.byte))).before args0 about1 = true := code_word (m := ⟨21, 6⟩) (meth := k21m6) (c := k21c6) (by decide +kernel) rfl rfl rfl (by decide +kernel)
set_option maxRecDepth 65536 in
theorem w_c33 : (Jvm.Cond.code ({ cls := "java/lang/StringUTF16", name := "getChar", desc := "([BI)C" } : Jvm.MethodName) jdk_52_method_5_code (2 : Nat) (Option.some Jvm.ClassFile.FieldType.char)).before args0 about1 = true := code_word (m := ⟨21, 4⟩) (meth := k21m4) (c := k21c4) (by decide +kernel) rfl rfl rfl (by decide +kernel)
set_option maxRecDepth 65536 in
theorem w_c34 : (Jvm.Cond.code ({ cls := "java/lang/StringUTF16", name := "coderFromArrayLen", desc := "([BI)B" } : Jvm.MethodName) jdk_52_method_15_code (2 : Nat) (Option.some Jvm.ClassFile.FieldType.byte)).before args0 about1 = true := code_word (m := ⟨21, 7⟩) (meth := k21m7) (c := k21c7) (by decide +kernel) rfl rfl rfl (by decide +kernel)
set_option maxRecDepth 65536 in
theorem w_c35 : (Jvm.Cond.code ({ cls := "java/lang/String", name := "equals", desc := "(Ljava/lang/Object;)Z" } : Jvm.MethodName) jdk_42_method_66_code (3 : Nat) (Option.some Jvm.ClassFile.FieldType.boolean)).before args0 about1 = true := code_word (m := ⟨11, 11⟩) (meth := k11m11) (c := k11c11) (by decide +kernel) rfl rfl rfl (by decide +kernel)
set_option maxRecDepth 65536 in
theorem w_c36 : (Jvm.Cond.code ({ cls := "java/lang/StringLatin1", name := "equals", desc := "([B[B)Z" } : Jvm.MethodName) jdk_43_method_13_code (3 : Nat) (Option.some Jvm.ClassFile.FieldType.boolean)).before args0 about1 = true := code_word (m := ⟨22, 1⟩) (meth := k22m1) (c := k22c1) (by decide +kernel) rfl rfl rfl (by decide +kernel)
set_option maxRecDepth 65536 in
theorem w_c37 : (Jvm.Cond.code ({ cls := "java/lang/String", name := "isNotContinuation", desc := "(I)Z" } : Jvm.MethodName) jdk_42_method_29_code (1 : Nat) (Option.some Jvm.ClassFile.FieldType.boolean)).before args0 about1 = true := code_word (m := ⟨11, 3⟩) (meth := k11m3) (c := k11c3) (by decide +kernel) rfl rfl rfl (by decide +kernel)
set_option maxRecDepth 65536 in
theorem w_c38 : (Jvm.Cond.code ({ cls := "java/lang/String", name := "decode2", desc := "(II)C" } : Jvm.MethodName) jdk_42_method_35_code (2 : Nat) (Option.some Jvm.ClassFile.FieldType.char)).before args0 about1 = true := code_word (m := ⟨11, 6⟩) (meth := k11m6) (c := k11c6) (by decide +kernel) rfl rfl rfl (by decide +kernel)
set_option maxRecDepth 65536 in
theorem w_c39 : (Jvm.Cond.code ({ cls := "java/lang/String", name := "isMalformed3", desc := "(III)Z" } : Jvm.MethodName) jdk_42_method_30_code (3 : Nat) (Option.some Jvm.ClassFile.FieldType.boolean)).before args0 about1 = true := code_word (m := ⟨11, 4⟩) (meth := k11m4) (c := k11c4) (by decide +kernel) rfl rfl rfl (by decide +kernel)
set_option maxRecDepth 65536 in
theorem w_c40 : (Jvm.Cond.code ({ cls := "java/lang/String", name := "decode3", desc := "(III)C" } : Jvm.MethodName) jdk_42_method_36_code (3 : Nat) (Option.some Jvm.ClassFile.FieldType.char)).before args0 about1 = true := code_word (m := ⟨11, 7⟩) (meth := k11m7) (c := k11c7) (by decide +kernel) rfl rfl rfl (by decide +kernel)
set_option maxRecDepth 65536 in
theorem w_c41 : (Jvm.Cond.code ({ cls := "java/lang/Character", name := "isSurrogate", desc := "(C)Z" } : Jvm.MethodName) jdk_89_method_16_code (1 : Nat) (Option.some Jvm.ClassFile.FieldType.boolean)).before args0 about1 = true := code_word (m := ⟨24, 1⟩) (meth := k24m1) (c := k24c1) (by decide +kernel) rfl rfl rfl (by decide +kernel)
def codes1 : List Jvm.Cond := [Jvm.Cond.code x code maxLocals ret, Jvm.Cond.code ({ cls := "com/example/attenuation/attenuation/core/OutcomeTextPinLaw", name := "status", desc := "(I)Lcom/example/attenuation/attenuation/core/Outcome$Status;" } : Jvm.MethodName) method_2_code (2 : Nat) (Option.some (Jvm.ClassFile.FieldType.object "com/example/attenuation/attenuation/core/Outcome$Status")), Jvm.Cond.code ({ cls := "com/example/attenuation/attenuation/core/Outcome", name := "<init>", desc := "(Lcom/example/attenuation/attenuation/core/Outcome$Status;[B)V" } : Jvm.MethodName) prog_16_method_1_code (3 : Nat) (Option.none : Option Jvm.ClassFile.FieldType), Jvm.Cond.code ({ cls := "java/lang/Record", name := "<init>", desc := "()V" } : Jvm.MethodName) jdk_30_method_1_code (1 : Nat) (Option.none : Option Jvm.ClassFile.FieldType), Jvm.Cond.code ({ cls := "java/lang/Object", name := "<init>", desc := "()V" } : Jvm.MethodName) object_method_1_code (1 : Nat) (Option.none : Option Jvm.ClassFile.FieldType), Jvm.Cond.code ({ cls := "java/util/Objects", name := "requireNonNull", desc := "(Ljava/lang/Object;Ljava/lang/String;)Ljava/lang/Object;" } : Jvm.MethodName) jdk_31_method_11_code (2 : Nat) (Option.some (Jvm.ClassFile.FieldType.object "java/lang/Object")), Jvm.Cond.code ({ cls := "com/example/attenuation/attenuation/core/Outcome", name := "text", desc := "()Ljava/lang/String;" } : Jvm.MethodName) prog_16_method_10_code (1 : Nat) (Option.some (Jvm.ClassFile.FieldType.object "java/lang/String")), Jvm.Cond.code ({ cls := "java/lang/String", name := "<init>", desc := "([BLjava/nio/charset/Charset;)V" } : Jvm.MethodName) jdk_42_method_49_code (3 : Nat) (Option.none : Option Jvm.ClassFile.FieldType), Jvm.Cond.code ({ cls := "java/util/Objects", name := "requireNonNull", desc := "(Ljava/lang/Object;)Ljava/lang/Object;" } : Jvm.MethodName) jdk_31_method_10_code (1 : Nat) (Option.some (Jvm.ClassFile.FieldType.object "java/lang/Object")), Jvm.Cond.code ({ cls := "java/lang/StringCoding", name := "countPositives", desc := "([BII)I" } : Jvm.MethodName) jdk_123_method_3_code (5 : Nat) (Option.some Jvm.ClassFile.FieldType.int), Jvm.Cond.code ({ cls := "java/util/Arrays", name := "copyOfRange", desc := "([BII)[B" } : Jvm.MethodName) jdk_65_method_132_code (3 : Nat) (Option.some (Jvm.ClassFile.FieldType.array Jvm.ClassFile.FieldType.byte)), Jvm.Cond.code ({ cls := "java/lang/StringUTF16", name := "newBytesFor", desc := "(I)[B" } : Jvm.MethodName) jdk_52_method_2_code (1 : Nat) (Option.some (Jvm.ClassFile.FieldType.array Jvm.ClassFile.FieldType.byte)), Jvm.Cond.code ({ cls := "java/lang/StringUTF16", name := "newBytesLength", desc := "(I)I" } : Jvm.MethodName) jdk_52_method_3_code (1 : Nat) (Option.some Jvm.ClassFile.FieldType.int), Jvm.Cond.code ({ cls := "java/lang/StringLatin1", name := "inflate", desc := "([BI[BII)V" } : Jvm.MethodName) jdk_43_method_50_code (5 : Nat) (Option.none : Option Jvm.ClassFile.FieldType), Jvm.Cond.code ({ cls := "java/lang/StringUTF16", name := "inflate", desc := "([BI[BII)V" } : Jvm.MethodName) jdk_52_method_86_code (6 : Nat) (Option.none : Option Jvm.ClassFile.FieldType), Jvm.Cond.code ({ cls := "java/lang/StringUTF16", name := "checkBoundsOffCount", desc := "(II[B)V" } : Jvm.MethodName) jdk_52_method_94_code (3 : Nat) (Option.none : Option Jvm.ClassFile.FieldType), Jvm.Cond.code ({ cls := "java/lang/StringUTF16", name := "length", desc := "([B)I" } : Jvm.MethodName) jdk_52_method_6_code (1 : Nat) (Option.some Jvm.ClassFile.FieldType.int), Jvm.Cond.code ({ cls := "java/lang/String", name := "checkBoundsOffCount", desc := "(III)I" } : Jvm.MethodName) jdk_42_method_157_code (3 : Nat) (Option.some Jvm.ClassFile.FieldType.int), Jvm.Cond.code ({ cls := "jdk/internal/util/Preconditions", name := "checkFromIndexSize", desc := "(IIILjava/util/function/BiFunction;)I" } : Jvm.MethodName) jdk_41_method_13_code (4 : Nat) (Option.some Jvm.ClassFile.FieldType.int), Jvm.Cond.code ({ cls := "java/lang/StringUTF16", name := "putChar", desc := "([BII)V" } : Jvm.MethodName) jdk_52_method_4_code (3 : Nat) (Option.none : Option Jvm.ClassFile.FieldType), Jvm.Cond.code ({ cls := "java/lang/String", name := "decodeUTF8_UTF16", desc := "([BII[BIZ)I" } : Jvm.MethodName) jdk_42_method_38_code (11 : Nat) (Option.some Jvm.ClassFile.FieldType.int), Jvm.Cond.code ({ cls := "java/lang/String", name := "decode4", desc := "(IIII)I" } : Jvm.MethodName) jdk_42_method_37_code (4 : Nat) (Option.some Jvm.ClassFile.FieldType.int), Jvm.Cond.code ({ cls := "java/lang/String", name := "isMalformed4", desc := "(III)Z" } : Jvm.MethodName) jdk_42_method_32_code (3 : Nat) (Option.some Jvm.ClassFile.FieldType.boolean), Jvm.Cond.code ({ cls := "java/lang/Character", name := "isSupplementaryCodePoint", desc := "(I)Z" } : Jvm.MethodName) jdk_89_method_13_code (1 : Nat) (Option.some Jvm.ClassFile.FieldType.boolean), Jvm.Cond.code ({ cls := "java/lang/Character", name := "highSurrogate", desc := "(I)C" } : Jvm.MethodName) jdk_89_method_28_code (1 : Nat) (Option.some Jvm.ClassFile.FieldType.char), Jvm.Cond.code ({ cls := "java/lang/Character", name := "lowSurrogate", desc := "(I)C" } : Jvm.MethodName) jdk_89_method_29_code (1 : Nat) (Option.some Jvm.ClassFile.FieldType.char), Jvm.Cond.code ({ cls := "java/util/Arrays", name := "copyOf", desc := "([BI)[B" } : Jvm.MethodName) jdk_65_method_121_code (3 : Nat) (Option.some (Jvm.ClassFile.FieldType.array Jvm.ClassFile.FieldType.byte)), Jvm.Cond.code ({ cls := "java/lang/Math", name := "min", desc := "(II)I" } : Jvm.MethodName) jdk_29_method_69_code (2 : Nat) (Option.some Jvm.ClassFile.FieldType.int), Jvm.Cond.code ({ cls := "java/lang/String", name := "<init>", desc := "([C)V" } : Jvm.MethodName) jdk_42_method_3_code (2 : Nat) (Option.none : Option Jvm.ClassFile.FieldType), Jvm.Cond.code ({ cls := "java/lang/String", name := "<init>", desc := "([CIILjava/lang/Void;)V" } : Jvm.MethodName) jdk_42_method_149_code (6 : Nat) (Option.none : Option Jvm.ClassFile.FieldType), Jvm.Cond.code ({ cls := "java/lang/StringUTF16", name := "compress", desc := "([CII)[B" } : Jvm.MethodName) jdk_52_method_16_code (6 : Nat) (Option.some (Jvm.ClassFile.FieldType.array Jvm.ClassFile.FieldType.byte)), Jvm.Cond.code ({ cls := "java/lang/StringUTF16", name := "compress", desc := "([CI[BII)I" } : Jvm.MethodName) jdk_52_method_21_code (7 : Nat) (Option.some Jvm.ClassFile.FieldType.int), Jvm.Cond.code ({ cls := "java/lang/StringUTF16", name := "toBytes", desc := "([CII)[B" } : Jvm.MethodName) jdk_52_method_14_code (5 : Nat) (Option.some (Jvm.ClassFile.FieldType.array Jvm.ClassFile.FieldType.byte)), Jvm.Cond.code ({ cls := "java/lang/StringUTF16", name := "getChar", desc := "([BI)C" } : Jvm.MethodName) jdk_52_method_5_code (2 : Nat) (Option.some Jvm.ClassFile.FieldType.char), Jvm.Cond.code ({ cls := "java/lang/StringUTF16", name := "coderFromArrayLen", desc := "([BI)B" } : Jvm.MethodName) jdk_52_method_15_code (2 : Nat) (Option.some Jvm.ClassFile.FieldType.byte), Jvm.Cond.code ({ cls := "java/lang/String", name := "equals", desc := "(Ljava/lang/Object;)Z" } : Jvm.MethodName) jdk_42_method_66_code (3 : Nat) (Option.some Jvm.ClassFile.FieldType.boolean), Jvm.Cond.code ({ cls := "java/lang/StringLatin1", name := "equals", desc := "([B[B)Z" } : Jvm.MethodName) jdk_43_method_13_code (3 : Nat) (Option.some Jvm.ClassFile.FieldType.boolean), Jvm.Cond.code ({ cls := "java/lang/String", name := "isNotContinuation", desc := "(I)Z" } : Jvm.MethodName) jdk_42_method_29_code (1 : Nat) (Option.some Jvm.ClassFile.FieldType.boolean), Jvm.Cond.code ({ cls := "java/lang/String", name := "decode2", desc := "(II)C" } : Jvm.MethodName) jdk_42_method_35_code (2 : Nat) (Option.some Jvm.ClassFile.FieldType.char), Jvm.Cond.code ({ cls := "java/lang/String", name := "isMalformed3", desc := "(III)Z" } : Jvm.MethodName) jdk_42_method_30_code (3 : Nat) (Option.some Jvm.ClassFile.FieldType.boolean), Jvm.Cond.code ({ cls := "java/lang/String", name := "decode3", desc := "(III)C" } : Jvm.MethodName) jdk_42_method_36_code (3 : Nat) (Option.some Jvm.ClassFile.FieldType.char), Jvm.Cond.code ({ cls := "java/lang/Character", name := "isSurrogate", desc := "(C)Z" } : Jvm.MethodName) jdk_89_method_16_code (1 : Nat) (Option.some Jvm.ClassFile.FieldType.boolean)]
set_option maxRecDepth 65536 in
theorem codes_eq : words1.filter isCode = codes1 := rfl
theorem w_codes : ∀ c ∈ words1.filter isCode, c.before args0 about1 = true := by
  rw [codes_eq]
  intro c hc
  simp only [codes1, List.mem_cons, List.not_mem_nil, or_false] at hc
  rcases hc with rfl | rfl | rfl | rfl | rfl | rfl | rfl | rfl | rfl | rfl | rfl | rfl | rfl | rfl | rfl | rfl | rfl | rfl | rfl | rfl | rfl | rfl | rfl | rfl | rfl | rfl | rfl | rfl | rfl | rfl | rfl | rfl | rfl | rfl | rfl | rfl | rfl | rfl | rfl | rfl | rfl | rfl
  · exact w_c0
  · exact w_c1
  · exact w_c2
  · exact w_c3
  · exact w_c4
  · exact w_c5
  · exact w_c6
  · exact w_c7
  · exact w_c8
  · exact w_c9
  · exact w_c10
  · exact w_c11
  · exact w_c12
  · exact w_c13
  · exact w_c14
  · exact w_c15
  · exact w_c16
  · exact w_c17
  · exact w_c18
  · exact w_c19
  · exact w_c20
  · exact w_c21
  · exact w_c22
  · exact w_c23
  · exact w_c24
  · exact w_c25
  · exact w_c26
  · exact w_c27
  · exact w_c28
  · exact w_c29
  · exact w_c30
  · exact w_c31
  · exact w_c32
  · exact w_c33
  · exact w_c34
  · exact w_c35
  · exact w_c36
  · exact w_c37
  · exact w_c38
  · exact w_c39
  · exact w_c40
  · exact w_c41
set_option maxRecDepth 65536 in
theorem w_t1 : (words1.take 24).all (fun c => isCode c || c.before args0 about1) = true := by decide +kernel
set_option maxRecDepth 65536 in
theorem w_t2 : ((words1.drop 24).take 24).all (fun c => isCode c || c.before args0 about1) = true := by decide +kernel
set_option maxRecDepth 65536 in
theorem w_t3a : ((words1.drop 48).take 16).all (fun c => isCode c || c.before args0 about1) = true := by decide +kernel
set_option maxRecDepth 65536 in
theorem w_t3b : ((words1.drop 65).take 7).all (fun c => isCode c || c.before args0 about1) = true := by decide +kernel
theorem own_cww {y : MethodName} {bytes : ByteArray} {mx : Nat} {rt : Option FieldType} {hs : List (Nat × Nat × Nat × Nat)} {a : Array Value} {s : State} {m : MethodId} {meth : Method} {c : Code} (h1 : s.methodNamed? y = some m) (h2 : s.vm.method? m = some meth) (h3 : meth.code = some c) (h4 : c.code = bytes)
    (h5 : (c.maxLocals == mx && decide (c.exceptionTable.toList.map (fun h => (h.startPc, h.endPc, h.handlerPc, h.catchType)) = hs) && decide (c.maxStack ≤ mostOperands) && decide (meth.sig.returnType = rt) && !meth.locks && decide (parseMethodDescriptor y.desc = some meth.sig)) = true) : (Jvm.Cond.codeWith y bytes mx rt hs).before a s = true := by
  simp only [Bool.and_eq_true, beq_iff_eq, Bool.not_eq_true', decide_eq_true_eq] at h5
  obtain ⟨⟨⟨⟨⟨g1, g2⟩, g3⟩, g4⟩, g5⟩, g6⟩ := h5
  simp [Cond.before, Cond.holds, Cond.value, h1, h2, h3, h4, g1, g2, g3, g4, g5, g6]
def own_cw : Jvm.Cond := Jvm.Cond.codeWith ({ cls := "java/lang/String", name := "<init>", desc := "(Ljava/nio/charset/Charset;[BII)V" } : Jvm.MethodName) jdk_42_method_11_code (11 : Nat) (Option.none : Option Jvm.ClassFile.FieldType) [((800 : Nat), (813 : Nat), (816 : Nat), (202 : Nat))]
set_option maxRecDepth 65536 in
theorem w_cw : own_cw.before args0 about1 = true := own_cww (m := ⟨11, 2⟩) (meth := k11m2) (c := k11c2) (by decide +kernel) rfl rfl rfl (by decide +kernel)
set_option maxRecDepth 65536 in
theorem own_t3 : ((words1.drop 24).drop 24).take 24 = (words1.drop 48).take 16 ++ (own_cw :: (words1.drop 65).take 7) := rfl
theorem w_t3 : (((words1.drop 24).drop 24).take 24).all (fun c => isCode c || c.before args0 about1) = true := by
  rw [own_t3, List.all_append, w_t3a, List.all_cons, w_t3b, w_cw, Bool.or_true]
  rfl
set_option maxRecDepth 65536 in
theorem w_t4 : ((((words1.drop 24).drop 24).drop 24).take 24).all (fun c => isCode c || c.before args0 about1) = true := by decide +kernel
set_option maxRecDepth 65536 in
theorem w_t5 : (((((words1.drop 24).drop 24).drop 24).drop 24).take 24).all (fun c => isCode c || c.before args0 about1) = true := by decide +kernel
set_option maxRecDepth 65536 in
theorem w_t6 : ((((((words1.drop 24).drop 24).drop 24).drop 24).drop 24).take 24).all (fun c => isCode c || c.before args0 about1) = true := by decide +kernel
set_option maxRecDepth 65536 in
theorem w_t7 : (((((((words1.drop 24).drop 24).drop 24).drop 24).drop 24).drop 24).take 24).all (fun c => isCode c || c.before args0 about1) = true := by decide +kernel
set_option maxRecDepth 65536 in
theorem w_t8 : ((((((((words1.drop 24).drop 24).drop 24).drop 24).drop 24).drop 24).drop 24).take 24).all (fun c => isCode c || c.before args0 about1) = true := by decide +kernel
set_option maxRecDepth 65536 in
theorem w_t9 : (((((((((words1.drop 24).drop 24).drop 24).drop 24).drop 24).drop 24).drop 24).drop 24).take 24).all (fun c => isCode c || c.before args0 about1) = true := by decide +kernel
set_option maxRecDepth 65536 in
theorem w_t10 : (((((((((words1.drop 24).drop 24).drop 24).drop 24).drop 24).drop 24).drop 24).drop 24).drop 24).all (fun c => isCode c || c.before args0 about1) = true := by decide +kernel
theorem w_tables : (allAtoms (Jvm.Cond.code x code maxLocals ret :: tables_1)).before args0 about1 = true := by
  rw [allAtoms_all]
  show words1.all (fun c => c.before args0 about1) = true
  refine all_split ?_ w_codes
  rw [← List.take_append_drop 24 words1, List.all_append, w_t1, ← List.take_append_drop 24 (words1.drop 24), List.all_append, w_t2, ← List.take_append_drop 24 ((words1.drop 24).drop 24), List.all_append, w_t3, ← List.take_append_drop 24 (((words1.drop 24).drop 24).drop 24), List.all_append, w_t4, ← List.take_append_drop 24 ((((words1.drop 24).drop 24).drop 24).drop 24), List.all_append, w_t5, ← List.take_append_drop 24 (((((words1.drop 24).drop 24).drop 24).drop 24).drop 24), List.all_append, w_t6, ← List.take_append_drop 24 ((((((words1.drop 24).drop 24).drop 24).drop 24).drop 24).drop 24), List.all_append, w_t7, ← List.take_append_drop 24 (((((((words1.drop 24).drop 24).drop 24).drop 24).drop 24).drop 24).drop 24), List.all_append, w_t8, ← List.take_append_drop 24 ((((((((words1.drop 24).drop 24).drop 24).drop 24).drop 24).drop 24).drop 24).drop 24), List.all_append, w_t9, w_t10]
  rfl
set_option maxRecDepth 65536 in
theorem w_rest : rest_1_c.before args0 about1 = true := by decide +kernel
set_option maxRecDepth 65536 in
theorem w_case : (Jvm.Cond.and given_1 narrow_1).before args0 about1 = true := by decide +kernel
theorem w_applies : (headSpec (Jvm.Cond.code x code maxLocals ret :: tables_1) room_1).applies x e0.platform about1 = true :=
  (Spec.applies_iff w_frames).mpr ⟨w_running, w_runnable, w_alone, w_named, w_hears, w_ripe, w_room, w_tables⟩
theorem atStart : AtStart classFile x code maxLocals ret World_1 tables_1 room_1 Calls_1 rest_1 Pre_1 launch0 p0 e0 about1 theMethod args0 below0 :=
  ⟨lists_1, trivial, launch0.admits_env _ _ _, launch0.least_env, fairChoices_fair.cas, fairChoices_fair.clock, w_frames, w_args, w_heap, w_applies, trivial, w_rest, w_case⟩
end start1
theorem witness_1 : WitnessClaimed_1 := ⟨start1.p0, start1.e0, start1.about1, start1.theMethod, start1.args0, start1.below0, start1.atStart⟩
end Jvm.Pilot.@@N@@
