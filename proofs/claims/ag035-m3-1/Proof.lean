import JvmDerived
import JvmDerived.Pilot.@@N@@Statement
import JvmDerived.Pilot.@@N@@Code
set_option linter.unusedVariables false
set_option linter.unusedSimpArgs false
/- laws to paste: Road.backV, Road.eqW, Road.lenW, Road.chN, Road.codOf (cut by pick.py; bodies as the Statement names them) -/
namespace Jvm.Pilot.@@N@@
namespace StrChars
open Jvm Sem ClassFile Op Lib Jvm.Stand Jvm.Free.XT Jvm.Free.ALB Jvm.Free.JM Jvm.Free
open Jvm.Lib.Cold (StaticIs)
/-- a char array whose places are chars -/
def Ch (a : Addr) (A : Cell) (U : State) : Prop := Arr .char a A U ∧ Typed .char A
theorem Ch.mv {a : Addr} {A : Cell} {U U' : State} (h : Ch a A U) (hal : U.vm.Alike U'.vm) (hh : U'.heap = U.heap) : Ch a A U' := ⟨h.1.mv hal hh, h.2⟩
theorem Ch.keep {a : Addr} {A : Cell} {U U' : State} (h : Ch a A U) (hal : U.vm.Alike U'.vm) (hk : U'.heap[a]? = some A) : Ch a A U' := ⟨h.1.keep hal hk, h.2⟩
/-- what place i of a char[]'s cell holds -/
def cv (A : Cell) (i : Nat) : Int32 := match A.slots[i]? with | some (.int x) => x | _ => 0
theorem Ch.get {a : Addr} {A : Cell} {U : State} (h : Ch a A U) {i : Nat} (hi : i < A.slots.size) : A.slots[i]? = some (.int (cv A i)) := by
  have e := Array.getElem?_eq_getElem hi
  have f := h.2 i _ e
  unfold cv; rw [e]
  generalize A.slots[i] = v at f
  cases v <;> simp [fits] at f ⊢
/-- the byte that i2b leaves of a char -/
def lo8 (x : Int32) : Int32 := x.toInt8.toInt32
theorem fits_lo8 (y : Int32) : fits .byte (.int (lo8 y)) = true := by
  have h1 := y.toInt8.le_toInt
  have h2 := y.toInt8.toInt_lt
  simp only [lo8, fits, Bool.and_eq_true, decide_eq_true_eq, Int32.le_iff_toInt_le, Int8.toInt_toInt32, show (-128 : Int32).toInt = -128 from by decide, show (127 : Int32).toInt = 127 from by decide]
  omega
/-- A' is A but that each place j of lo .. hi - 1 holds f j -/
def Laid (A A' : Cell) (lo hi : Nat) (f : Nat → Value) : Prop := A'.cls = A.cls ∧ A'.vm = A.vm ∧ A'.slots.size = A.slots.size ∧ ∀ i, A'.slots[i]? = if lo ≤ i ∧ i < hi then some (f i) else A.slots[i]?
theorem Laid.zero (A : Cell) (lo : Nat) (f : Nat → Value) : Laid A A lo (lo + 0) f := ⟨rfl, rfl, rfl, fun i => by rw [if_neg (by omega)]⟩
theorem Laid.step {A Ak : Cell} {lo k : Nat} {f : Nat → Value} {v : Value} (h : Laid A Ak lo k f) (hlo : lo ≤ k) (hk : k < Ak.slots.size) (hv : v = f k) : Laid A (Ak.setSlot k v) lo (k + 1) f := by
  refine ⟨h.1, h.2.1, by simpa [Cell.setSlot] using h.2.2.1, fun i => ?_⟩
  by_cases e : k = i
  · subst e; rw [Cell.slots_setSlot_self v hk, if_pos (by omega), hv]
  · rw [Cell.slots_setSlot_ne v e, h.2.2.2 i]
    by_cases q : lo ≤ i ∧ i < k
    · rw [if_pos q, if_pos (by omega)]
    · rw [if_neg q, if_neg (by omega)]
def U16 : String := "java/lang/StringUTF16"
namespace Cmp5
def yN : MethodName := ⟨"java/lang/StringUTF16", "compress", "([CI[BII)I"⟩
abbrev yB : ByteArray := jdk_52_method_21_code
theorem d0 : decode yB 0 = .ok (.iconst 0, 1) := by decide +kernel
theorem d1 : decode yB 1 = .ok (.istore 5, 2) := by decide +kernel
theorem d3 : decode yB 3 = .ok (.iload 5, 2) := by decide +kernel
theorem d5 : decode yB 5 = .ok (.iload 4, 2) := by decide +kernel
theorem d7 : decode yB 7 = .ok (.if_icmp (.ge) 37, 3) := by decide +kernel
theorem d10 : decode yB 10 = .ok (.aload_n 0, 1) := by decide +kernel
theorem d11 : decode yB 11 = .ok (.iload_n 1, 1) := by decide +kernel
theorem d12 : decode yB 12 = .ok (.caload, 1) := by decide +kernel
theorem d13 : decode yB 13 = .ok (.istore 6, 2) := by decide +kernel
theorem d15 : decode yB 15 = .ok (.iload 6, 2) := by decide +kernel
theorem d17 : decode yB 17 = .ok (.sipush 255, 3) := by decide +kernel
theorem d20 : decode yB 20 = .ok (.if_icmp (.le) 6, 3) := by decide +kernel
theorem d26 : decode yB 26 = .ok (.aload_n 2, 1) := by decide +kernel
theorem d27 : decode yB 27 = .ok (.iload_n 3, 1) := by decide +kernel
theorem d28 : decode yB 28 = .ok (.iload 6, 2) := by decide +kernel
theorem d30 : decode yB 30 = .ok (.i2b, 1) := by decide +kernel
theorem d31 : decode yB 31 = .ok (.bastore, 1) := by decide +kernel
theorem d32 : decode yB 32 = .ok (.iinc 1 1, 3) := by decide +kernel
theorem d35 : decode yB 35 = .ok (.iinc 3 1, 3) := by decide +kernel
theorem d38 : decode yB 38 = .ok (.iinc 5 1, 3) := by decide +kernel
theorem d41 : decode yB 41 = .ok (.goto (-38), 3) := by decide +kernel
theorem d44 : decode yB 44 = .ok (.iload 4, 2) := by decide +kernel
theorem d46 : decode yB 46 = .ok (.ireturn, 1) := by decide +kernel
def site : List Cond := []
def tab : Cond := tabOf yN yB 7 (some .int) site
def P (b : Addr) (A : Cell) (d : Addr) (B : Cell) (o q len : Nat) (args : Array Value) (s : State) : Prop := args = #[.ref b, .int (Int32.ofNat o), .ref d, .int (Int32.ofNat q), .int (Int32.ofNat len)] ∧ Ch b A s ∧ Arr .byte d B s ∧ b ≠ d ∧ o + len ≤ A.slots.size ∧ q + len ≤ B.slots.size ∧ ∀ i, i < len → ¬ 255 < cv A (o + i)
def E (b : Addr) (A : Cell) (d : Addr) (B : Cell) (o q len : Nat) (r : Option Value) (s u : State) : Prop := r = some (.int (Int32.ofNat len)) ∧ ∃ B', Put d B' s u ∧ Laid B B' q (q + len) (fun j => Value.int (lo8 (cv A (o + (j - q)))))
/-- no char of the range above 255: len; the places written hold each char's low byte -/
theorem law (l : Launch) (b : Addr) (A : Cell) (d : Addr) (B : Cell) (o q len : Nat) : Law l yN 5 5 0 0 yB 7 (some .int) site (P b A d B o q len) (E b A d B o q len) (copyLocs d q len) 0 0 := by
  refine Law.of_walk (plainFor_of_name (by decide +kernel)) (by decide +kernel) (by decide +kernel) (by decide) (fun _ _ h => by rw [h.1]; rfl) (fun _ U U' hal hh h => ⟨h.1, h.2.1.mv hal hh, h.2.2.1.mv hal hh, h.2.2.2⟩) (fun r U U' V V' h1 hal h2 h => ⟨h.1, h.2.elim fun B' q => ⟨B', q.1.mv h1 h2, q.2⟩⟩) ?_
  intro p e s m args below meth c s₁ X0 hexec hbytes hml hret hlk hnm hown hh0 W hP
  obtain ⟨rfl, hA, hB, hne, l1, l2, hp⟩ := hP
  have c1 : Steps p.tables e below (s₁.setTop (entryFrame m #[.ref b, .int (Int32.ofNat o), .ref d, .int (Int32.ofNat q), .int (Int32.ofNat len)] 7)) (s₁.setTop (mkF m 0 #[.val (.ref b), .val (.int (Int32.ofNat o)), .val (.ref d), .val (.int (Int32.ofNat q)), .val (.int (Int32.ofNat len)), .unset, .unset] [])) := entry rfl
  have hA0 := hA.1.mv X0.warmed.alike hh0
  have hB0 := hB.mv X0.warmed.alike hh0
  have a31 := hA.1.2.2.2
  have c2 : Steps p.tables e below (s₁.setTop (entryFrame m #[.ref b, .int (Int32.ofNat o), .ref d, .int (Int32.ofNat q), .int (Int32.ofNat len)] 7)) (s₁.setTop (mkF m 3 #[.val (.ref b), .val (.int (Int32.ofNat o)), .val (.ref d), .val (.int (Int32.ofNat q)), .val (.int (Int32.ofNat len)), .val (.int 0), .unset] [])) := c1.trans (by
    refine iconstV X0.here hexec rfl 0 (hb hbytes d0) (by decide) ?_
    refine XS.istore X0.here hexec rfl (hb hbytes d1) rfl rfl ?_
    exact Steps.refl _)
  have loop : ∀ (r i : Nat), i + r = len → ∀ (z : Slot), (z = .unset ∨ ∃ w, z = .val w ∧ w.category = 1) → ∀ (Tl : State) (Bk : Cell), Stand p l e { frames := 0, locals := 0, cells := 0, slots := 0 } s m #[.ref b, .int (Int32.ofNat o), .ref d, .int (Int32.ofNat q), .int (Int32.ofNat len)] below meth c Tl ([] ++ copyLocs d q i) 0 0 → Put d Bk s₁ Tl → Laid B Bk q (q + i) (fun j => Value.int (lo8 (cv A (o + (j - q))))) →
      Steps p.tables e below (s₁.setTop (entryFrame m #[.ref b, .int (Int32.ofNat o), .ref d, .int (Int32.ofNat q), .int (Int32.ofNat len)] 7)) (Tl.setTop (mkF m 3 #[.val (.ref b), .val (.int (Int32.ofNat (o + i))), .val (.ref d), .val (.int (Int32.ofNat (q + i))), .val (.int (Int32.ofNat len)), .val (.int (Int32.ofNat i)), z] [])) → ∃ (T' : State) (B' : Cell) (z' : Slot), Stand p l e { frames := 0, locals := 0, cells := 0, slots := 0 } s m #[.ref b, .int (Int32.ofNat o), .ref d, .int (Int32.ofNat q), .int (Int32.ofNat len)] below meth c T' ([] ++ copyLocs d q len) 0 0 ∧ Put d B' s₁ T' ∧ Laid B B' q (q + len) (fun j => Value.int (lo8 (cv A (o + (j - q))))) ∧
      Steps p.tables e below (s₁.setTop (entryFrame m #[.ref b, .int (Int32.ofNat o), .ref d, .int (Int32.ofNat q), .int (Int32.ofNat len)] 7)) (T'.setTop (mkF m 3 #[.val (.ref b), .val (.int (Int32.ofNat (o + len))), .val (.ref d), .val (.int (Int32.ofNat (q + len))), .val (.int (Int32.ofNat len)), .val (.int (Int32.ofNat len)), z'] [])) := by
    intro r
    induction r with
    | zero =>
      intro i hi z hz Tl Bk Xl pl fl cl
      have hil : i = len := by omega
      rw [hil] at Xl fl cl
      exact ⟨Tl, Bk, z, Xl, pl, fl, cl⟩
    | succ r ih =>
      intro i hi z hz Tl Bk Xl pl fl cl
      have all := X0.warmed.alike.symm.trans Xl.warmed.alike
      have hAl := hA0.keep all (pl.other hne hA0.1)
      have hBk := hB0.like all pl.1 fl.1 fl.2.1 fl.2.2.1
      have hlt : q + i < Bk.slots.size := by rw [fl.2.2.1]; omega
      have c3 : Steps p.tables e below (s₁.setTop (entryFrame m #[.ref b, .int (Int32.ofNat o), .ref d, .int (Int32.ofNat q), .int (Int32.ofNat len)] 7)) (Tl.setTop (mkF m 12 #[.val (.ref b), .val (.int (Int32.ofNat (o + i))), .val (.ref d), .val (.int (Int32.ofNat (q + i))), .val (.int (Int32.ofNat len)), .val (.int (Int32.ofNat i)), z] [.int (Int32.ofNat (o + i)), .ref b])) := cl.trans (by
        refine XS.iload Xl.here hexec rfl (hb hbytes d3) rfl ?_
        refine XS.iload Xl.here hexec rfl (hb hbytes d5) rfl ?_
        refine XS.icmpNo Xl.here hexec rfl (hb hbytes d7) rfl (ii_ge_f (lt32 (by omega) (by omega))) ?_
        refine XS.aloadN Xl.here hexec rfl (hb hbytes d10) rfl rfl ?_
        refine XS.iloadN Xl.here hexec rfl (hb hbytes d11) rfl ?_
        exact Steps.refl _)
      have c4 : Steps p.tables e below (s₁.setTop (entryFrame m #[.ref b, .int (Int32.ofNat o), .ref d, .int (Int32.ofNat q), .int (Int32.ofNat len)] 7)) (Tl.setTop (mkF m 13 #[.val (.ref b), .val (.int (Int32.ofNat (o + i))), .val (.ref d), .val (.int (Int32.ofNat (q + i))), .val (.int (Int32.ofNat len)), .val (.int (Int32.ofNat i)), z] [.int (cv A (o + i))])) := c3.trans (by
        refine Xl.aget hexec hAl rfl (hA.get (i := o + i) (by omega)) rfl rfl (hb hbytes d12) ?_
        exact Steps.refl _)
      have c5 : Steps p.tables e below (s₁.setTop (entryFrame m #[.ref b, .int (Int32.ofNat o), .ref d, .int (Int32.ofNat q), .int (Int32.ofNat len)] 7)) (Tl.setTop (mkF m 15 #[.val (.ref b), .val (.int (Int32.ofNat (o + i))), .val (.ref d), .val (.int (Int32.ofNat (q + i))), .val (.int (Int32.ofNat len)), .val (.int (Int32.ofNat i)), .val (.int (cv A (o + i)))] [])) := c4.trans (by
        refine XS.istoreS Xl.here hexec rfl (hb hbytes d13) rfl rfl hz ?_
        exact Steps.refl _)
      have c6 : Steps p.tables e below (s₁.setTop (entryFrame m #[.ref b, .int (Int32.ofNat o), .ref d, .int (Int32.ofNat q), .int (Int32.ofNat len)] 7)) (Tl.setTop (mkF m 31 #[.val (.ref b), .val (.int (Int32.ofNat (o + i))), .val (.ref d), .val (.int (Int32.ofNat (q + i))), .val (.int (Int32.ofNat len)), .val (.int (Int32.ofNat i)), .val (.int (cv A (o + i)))] [.int (lo8 (cv A (o + i))), .int (Int32.ofNat (q + i)), .ref d])) := c5.trans (by
        refine XS.iload Xl.here hexec rfl (hb hbytes d15) rfl ?_
        refine sipushV Xl.here hexec rfl 255 (hb hbytes d17) (by decide) ?_
        refine XS.icmpYes Xl.here hexec rfl (pc0 := 20) rfl (hb hbytes d20) rfl (ii_le_t (hp i (by omega))) (by decide) rfl ?_
        refine XS.aloadN Xl.here hexec rfl (hb hbytes d26) rfl rfl ?_
        refine XS.iloadN Xl.here hexec rfl (hb hbytes d27) rfl ?_
        refine XS.iload Xl.here hexec rfl (hb hbytes d28) rfl ?_
        refine i2b Xl.here hexec rfl (hb hbytes d30) rfl ?_
        exact Steps.refl _)
      obtain ⟨T7, X7, p7, st7⟩ := Xl.aput hexec hBk rfl hlt rfl (fits_lo8 (cv A (o + i))) (g := (mkF m 31 #[.val (.ref b), .val (.int (Int32.ofNat (o + i))), .val (.ref d), .val (.int (Int32.ofNat (q + i))), .val (.int (Int32.ofNat len)), .val (.int (Int32.ofNat i)), .val (.int (cv A (o + i)))] [.int (lo8 (cv A (o + i))), .int (Int32.ofNat (q + i)), .ref d])) rfl (rest := []) rfl (hb hbytes d31)
      have c8 : Steps p.tables e below (s₁.setTop (entryFrame m #[.ref b, .int (Int32.ofNat o), .ref d, .int (Int32.ofNat q), .int (Int32.ofNat len)] 7)) (T7.setTop (mkF m 32 #[.val (.ref b), .val (.int (Int32.ofNat (o + i))), .val (.ref d), .val (.int (Int32.ofNat (q + i))), .val (.int (Int32.ofNat len)), .val (.int (Int32.ofNat i)), .val (.int (cv A (o + i)))] [])) := c6.trans (st7 _ (Steps.refl _))
      have c9 : Steps p.tables e below (s₁.setTop (entryFrame m #[.ref b, .int (Int32.ofNat o), .ref d, .int (Int32.ofNat q), .int (Int32.ofNat len)] 7)) (T7.setTop (mkF m 3 #[.val (.ref b), .val (.int (Int32.ofNat (o + i) + 1)), .val (.ref d), .val (.int (Int32.ofNat (q + i) + 1)), .val (.int (Int32.ofNat len)), .val (.int (Int32.ofNat i + 1)), .val (.int (cv A (o + i)))] [])) := c8.trans (by
        refine iincV X7.here hexec rfl 1 (hb hbytes d32) (by decide) rfl rfl ?_
        refine iincV X7.here hexec rfl 1 (hb hbytes d35) (by decide) rfl rfl ?_
        refine iincV X7.here hexec rfl 1 (hb hbytes d38) (by decide) rfl rfl ?_
        refine XS.goto X7.here hexec rfl (pc0 := 41) rfl (hb hbytes d41) (by decide) rfl ?_
        exact Steps.refl _)
      have c10 : Steps p.tables e below (s₁.setTop (entryFrame m #[.ref b, .int (Int32.ofNat o), .ref d, .int (Int32.ofNat q), .int (Int32.ofNat len)] 7)) (T7.setTop (mkF m 3 #[.val (.ref b), .val (.int (Int32.ofNat (o + (i + 1)))), .val (.ref d), .val (.int (Int32.ofNat (q + (i + 1)))), .val (.int (Int32.ofNat len)), .val (.int (Int32.ofNat (i + 1))), .val (.int (cv A (o + i)))] [])) := by
        have := c9
        rw [succ32, succ32, succ32] at this
        exact this
      exact ih (i + 1) (by omega) _ (Or.inr ⟨_, rfl, rfl⟩) T7 _ (by rw [copyLocs_step, ← List.append_assoc]; exact X7) (pl.trans p7) (fl.step (by omega) hlt (by simp)) c10
  obtain ⟨T9, B9, z9, X9, p9, f9, g9⟩ := loop len 0 (by omega) .unset (Or.inl rfl) s₁ B (by simpa [copyLocs] using X0) ⟨hB0.1, fun _ _ => rfl, rfl⟩ (Laid.zero _ _ _) c2
  have c11 : Steps p.tables e below (s₁.setTop (entryFrame m #[.ref b, .int (Int32.ofNat o), .ref d, .int (Int32.ofNat q), .int (Int32.ofNat len)] 7)) (T9.setTop (mkF m 46 #[.val (.ref b), .val (.int (Int32.ofNat (o + len))), .val (.ref d), .val (.int (Int32.ofNat (q + len))), .val (.int (Int32.ofNat len)), .val (.int (Int32.ofNat len)), z9] [.int (Int32.ofNat len)])) := g9.trans (by
    refine XS.iload X9.here hexec rfl (hb hbytes d3) rfl ?_
    refine XS.iload X9.here hexec rfl (hb hbytes d5) rfl ?_
    refine XS.icmpYes X9.here hexec rfl (pc0 := 7) rfl (hb hbytes d7) rfl (ii_ge_t (nlt32 (by omega) (Nat.le_refl _))) (by decide) rfl ?_
    refine XS.iload X9.here hexec rfl (hb hbytes d44) rfl ?_
    exact Steps.refl _)
  exact ⟨T9, some (.int (Int32.ofNat len)), _, _, _, X9, by simp, rfl, rfl, (fun h => by cases h), ⟨rfl, B9, p9.from hh0, f9⟩, fun fs hl => c11.trans (X9.ireturnOut hexec hret rfl (Or.inl rfl) (hb hbytes d46) hl)⟩
end Cmp5
namespace Cmp3
def yN : MethodName := ⟨"java/lang/StringUTF16", "compress", "([CII)[B"⟩
abbrev yB : ByteArray := jdk_52_method_16_code
theorem d0 : decode yB 0 = .ok (.iload_n 2, 1) := by decide +kernel
theorem d1 : decode yB 1 = .ok (.newarray .byte, 2) := by decide +kernel
theorem d3 : decode yB 3 = .ok (.astore_n 3, 1) := by decide +kernel
theorem d4 : decode yB 4 = .ok (.aload_n 0, 1) := by decide +kernel
theorem d5 : decode yB 5 = .ok (.iload_n 1, 1) := by decide +kernel
theorem d6 : decode yB 6 = .ok (.aload_n 3, 1) := by decide +kernel
theorem d7 : decode yB 7 = .ok (.iconst 0, 1) := by decide +kernel
theorem d8 : decode yB 8 = .ok (.iload_n 2, 1) := by decide +kernel
theorem d9 : decode yB 9 = .ok (.invokestatic 115, 3) := by decide +kernel
theorem d12 : decode yB 12 = .ok (.istore 4, 2) := by decide +kernel
theorem d14 : decode yB 14 = .ok (.iload 4, 2) := by decide +kernel
theorem d16 : decode yB 16 = .ok (.iload_n 2, 1) := by decide +kernel
theorem d17 : decode yB 17 = .ok (.if_icmp (.eq) 40, 3) := by decide +kernel
theorem d57 : decode yB 57 = .ok (.aload_n 3, 1) := by decide +kernel
theorem d58 : decode yB 58 = .ok (.areturn, 1) := by decide +kernel
def site : List Cond := [.arrayClass .byte, Cmp5.tab] ++ staticW U16 115 Cmp5.yN
def tab : Cond := tabOf yN yB 6 (some (.array .byte)) site
def P (b : Addr) (A : Cell) (o len : Nat) (args : Array Value) (s : State) : Prop := args = #[.ref b, .int (Int32.ofNat o), .int (Int32.ofNat len)] ∧ Ch b A s ∧ o + len ≤ A.slots.size ∧ len ≤ 536870912 ∧ ∀ i, i < len → ¬ 255 < cv A (o + i)
def E (b : Addr) (A : Cell) (o len : Nat) (r : Option Value) (s u : State) : Prop := NewArr .byte "[B" len (fun j => .int (lo8 (cv A (o + j)))) r s u ∧ u.heap.size = s.heap.size + 1
/-- no char of the range above 255: a new byte[] of their low bytes -/
theorem law (l : Launch) (b : Addr) (A : Cell) (o len : Nat) : Law l yN 3 3 1 18 yB 6 (some (.array .byte)) site (P b A o len) (E b A o len) [] 1 len := by
  refine Law.of_walk (plainFor_of_name (by decide +kernel)) (by decide +kernel) (by decide +kernel) (by decide) (fun _ _ h => by rw [h.1]; rfl) (fun _ U U' hal hh h => ⟨h.1, h.2.1.mv hal hh, h.2.2⟩) (fun r U U' V V' h1 hal h2 h => ⟨NewArr.mv r U U' V V' h1 hal h2 h.1, by rw [h1, h2]; exact h.2⟩) ?_
  intro p e s m args below meth c s₁ X0 hexec hbytes hml hret hlk hnm hown hh0 W hP
  obtain ⟨rfl, hA, l1, l2, hp⟩ := hP
  have a31 := hA.1.2.2.2
  have c1 : Steps p.tables e below (s₁.setTop (entryFrame m #[.ref b, .int (Int32.ofNat o), .int (Int32.ofNat len)] 6)) (s₁.setTop (mkF m 0 #[.val (.ref b), .val (.int (Int32.ofNat o)), .val (.int (Int32.ofNat len)), .unset, .unset, .unset] [])) := entry rfl
  have c2 : Steps p.tables e below (s₁.setTop (entryFrame m #[.ref b, .int (Int32.ofNat o), .int (Int32.ofNat len)] 6)) (s₁.setTop (mkF m 1 #[.val (.ref b), .val (.int (Int32.ofNat o)), .val (.int (Int32.ofNat len)), .unset, .unset, .unset] [.int (Int32.ofNat len)])) := c1.trans (by
    refine XS.iloadN X0.here hexec rfl (hb hbytes d0) rfl ?_
    exact Steps.refl _)
  obtain ⟨T3, B3, X3, ba3, bs3, bv3, bh3, bf3, st3⟩ := X0.anew hexec (atype := .byte) (wk W (.arrayClass .byte)) rfl (by show len * 1 ≤ _; omega) (by omega) (g := (mkF m 1 #[.val (.ref b), .val (.int (Int32.ofNat o)), .val (.int (Int32.ofNat len)), .unset, .unset, .unset] [.int (Int32.ofNat len)])) rfl (hb hbytes d1) (rest := []) rfl (Nat.le_refl _) (by show 0 + len ≤ len; omega)
  rw [hh0] at ba3 st3
  have kp3 : XT.Kept s T3 := (XT.Kept.of_eq hh0).push bh3
  have hA3 := hA.keep X3.warmed.alike (kp3 _ _ hA.1.1)
  have hne : b ≠ s.heap.size := hA.1.ne
  have c4 : Steps p.tables e below (s₁.setTop (entryFrame m #[.ref b, .int (Int32.ofNat o), .int (Int32.ofNat len)] 6)) (T3.setTop (mkF m 3 #[.val (.ref b), .val (.int (Int32.ofNat o)), .val (.int (Int32.ofNat len)), .unset, .unset, .unset] [.ref s.heap.size])) := c2.trans (st3 _ (Steps.refl _))
  have c5 : Steps p.tables e below (s₁.setTop (entryFrame m #[.ref b, .int (Int32.ofNat o), .int (Int32.ofNat len)] 6)) (T3.setTop (mkF m 9 #[.val (.ref b), .val (.int (Int32.ofNat o)), .val (.int (Int32.ofNat len)), .val (.ref s.heap.size), .unset, .unset] [.int (Int32.ofNat len), .int 0, .ref s.heap.size, .int (Int32.ofNat o), .ref b])) := c4.trans (by
    refine XS.astoreN X3.here hexec rfl (hb hbytes d3) rfl rfl rfl ?_
    refine XS.aloadN X3.here hexec rfl (hb hbytes d4) rfl rfl ?_
    refine XS.iloadN X3.here hexec rfl (hb hbytes d5) rfl ?_
    refine XS.aloadN X3.here hexec rfl (hb hbytes d6) rfl rfl ?_
    refine iconstV X3.here hexec rfl 0 (hb hbytes d7) (by decide) ?_
    refine XS.iloadN X3.here hexec rfl (hb hbytes d8) rfl ?_
    exact Steps.refl _)
  obtain ⟨v6, T6, X6, E6, g6⟩ := X3.callS hexec (Cmp5.law l b A s.heap.size B3 o 0 len) hown (wks W (staticW U16 115 Cmp5.yN)) (wk W Cmp5.tab) (W := 0) (Nat.le_of_ble_eq_true rfl) (Nat.le_of_ble_eq_true rfl) (Nat.le_refl _) (by show 0 + len + 0 ≤ len; omega) (g := (mkF m 9 #[.val (.ref b), .val (.int (Int32.ofNat o)), .val (.int (Int32.ofNat len)), .val (.ref s.heap.size), .unset, .unset] [.int (Int32.ofNat len), .int (Int32.ofNat 0), .ref s.heap.size, .int (Int32.ofNat o), .ref b])) rfl (by rw [hml]; rfl) c5 (argsL := [.ref b, .int (Int32.ofNat o), .ref s.heap.size, .int (Int32.ofNat 0), .int (Int32.ofNat len)]) (rest := []) rfl rfl (by show 2 * 0 + 0 ≤ _; decide) (hb hbytes d9) (⟨rfl, hA3, ba3, hne, l1, by rw [bs3]; simp, hp⟩)
  obtain ⟨rfl, B6, p6, f6⟩ := E6
  have c7 : Steps p.tables e below (s₁.setTop (entryFrame m #[.ref b, .int (Int32.ofNat o), .int (Int32.ofNat len)] 6)) (T6.setTop (mkF m 12 #[.val (.ref b), .val (.int (Int32.ofNat o)), .val (.int (Int32.ofNat len)), .val (.ref s.heap.size), .unset, .unset] [.int (Int32.ofNat len)])) := g6
  have c8 : Steps p.tables e below (s₁.setTop (entryFrame m #[.ref b, .int (Int32.ofNat o), .int (Int32.ofNat len)] 6)) (T6.setTop (mkF m 58 #[.val (.ref b), .val (.int (Int32.ofNat o)), .val (.int (Int32.ofNat len)), .val (.ref s.heap.size), .val (.int (Int32.ofNat len)), .unset] [.ref s.heap.size])) := c7.trans (by
    refine XS.istore X6.here hexec rfl (hb hbytes d12) rfl rfl ?_
    refine XS.iload X6.here hexec rfl (hb hbytes d14) rfl ?_
    refine XS.iloadN X6.here hexec rfl (hb hbytes d16) rfl ?_
    refine XS.icmpYes X6.here hexec rfl (pc0 := 17) rfl (hb hbytes d17) rfl (ii_eq_t rfl) (by decide) rfl ?_
    refine XS.aloadN X6.here hexec rfl (hb hbytes d57) rfl rfl ?_
    exact Steps.refl _)
  have X8 := X6.wide (L' := []) (cells' := 1) (slots' := len) (fun x hx hlt => by
    simp only [List.nil_append, copyLocs, List.mem_map, List.mem_range] at hx
    obtain ⟨i, -, rfl⟩ := hx
    exact absurd hlt (Nat.lt_irrefl _)) (Nat.le_refl _) (by omega)
  exact ⟨T6, some (.ref s.heap.size), _, _, _, X8, rfl, rfl, rfl, (fun h => by cases h), ⟨⟨rfl, B6, ba3.like (X3.warmed.alike.symm.trans X6.warmed.alike) p6.1 f6.1 f6.2.1 f6.2.2.1, f6.2.1.trans bv3, by rw [X6.warmed.alike.findClass, f6.1]; exact bf3, by rw [f6.2.2.1, bs3]; simp, fun j hj => by rw [f6.2.2.2 j, if_pos (by omega)]; rfl, kp3.put p6 (Nat.le_refl _)⟩, by rw [p6.2.2, bh3, hh0]; simp⟩, fun fs hl => c8.trans (X8.areturnOut hexec rfl hret rfl (hb hbytes d58) hl)⟩
end Cmp3
namespace CodL
def yN : MethodName := ⟨"java/lang/StringUTF16", "coderFromArrayLen", "([BI)B"⟩
abbrev yB : ByteArray := jdk_52_method_15_code
theorem d0 : decode yB 0 = .ok (.iload_n 1, 1) := by decide +kernel
theorem d1 : decode yB 1 = .ok (.aload_n 0, 1) := by decide +kernel
theorem d2 : decode yB 2 = .ok (.arraylength, 1) := by decide +kernel
theorem d3 : decode yB 3 = .ok (.isub, 1) := by decide +kernel
theorem d4 : decode yB 4 = .ok (.bipush 31, 2) := by decide +kernel
theorem d6 : decode yB 6 = .ok (.iushr, 1) := by decide +kernel
theorem d7 : decode yB 7 = .ok (.i2b, 1) := by decide +kernel
theorem d8 : decode yB 8 = .ok (.ireturn, 1) := by decide +kernel
def site : List Cond := []
def tab : Cond := tabOf yN yB 2 (some .byte) site
def P (d : Addr) (B : Cell) (args : Array Value) (s : State) : Prop := args = #[.ref d, .int (Int32.ofNat B.slots.size)] ∧ Arr .byte d B s
def E (r : Option Value) (s u : State) : Prop := XT.PureE (some (.int 0)) r s u
/-- an array as long as the number of chars: LATIN1 -/
theorem law (l : Launch) (d : Addr) (B : Cell) : Law l yN 2 2 0 0 yB 2 (some .byte) site (P d B) E [] 0 0 := by
  refine Law.of_walk (plainFor_of_name (by decide +kernel)) (by decide +kernel) (by decide +kernel) (by decide) (fun _ _ h => by rw [h.1]; rfl) (fun _ U U' hal hh h => ⟨h.1, h.2.mv hal hh⟩) (fun r U U' V V' h1 hal h2 h => XT.PureE.mv r U U' V V' h1 hal h2 h) ?_
  intro p e s m args below meth c s₁ X0 hexec hbytes hml hret hlk hnm hown hh0 W hP
  obtain ⟨rfl, hB⟩ := hP
  have hB0 := hB.mv X0.warmed.alike hh0
  have c1 : Steps p.tables e below (s₁.setTop (entryFrame m #[.ref d, .int (Int32.ofNat B.slots.size)] 2)) (s₁.setTop (mkF m 0 #[.val (.ref d), .val (.int (Int32.ofNat B.slots.size))] [])) := entry rfl
  have c2 : Steps p.tables e below (s₁.setTop (entryFrame m #[.ref d, .int (Int32.ofNat B.slots.size)] 2)) (s₁.setTop (mkF m 2 #[.val (.ref d), .val (.int (Int32.ofNat B.slots.size))] [.ref d, .int (Int32.ofNat B.slots.size)])) := c1.trans (by
    refine XS.iloadN X0.here hexec rfl (hb hbytes d0) rfl ?_
    refine XS.aloadN X0.here hexec rfl (hb hbytes d1) rfl rfl ?_
    exact Steps.refl _)
  have c3 : Steps p.tables e below (s₁.setTop (entryFrame m #[.ref d, .int (Int32.ofNat B.slots.size)] 2)) (s₁.setTop (mkF m 8 #[.val (.ref d), .val (.int (Int32.ofNat B.slots.size))] [.int (lo8 (ushr (Int32.ofNat B.slots.size - Int32.ofNat B.slots.size) 31))])) := c2.trans (by
    refine X0.alen hexec hB0 rfl rfl (hb hbytes d2) ?_
    refine XS.isub X0.here hexec rfl (hb hbytes d3) rfl ?_
    refine bipushV X0.here hexec rfl 31 (hb hbytes d4) (by decide) ?_
    refine iushr X0.here hexec rfl (hb hbytes d6) rfl ?_
    refine i2b X0.here hexec rfl (hb hbytes d7) rfl ?_
    exact Steps.refl _)
  have e0 : lo8 (ushr (Int32.ofNat B.slots.size - Int32.ofNat B.slots.size) 31) = 0 := by rw [Int32.sub_self]; decide
  rw [e0] at c3
  exact ⟨s₁, some (.int 0), _, _, _, X0, rfl, rfl, rfl, (fun h => by cases h), ⟨rfl, hh0⟩, fun fs hl => c3.trans (X0.ireturnOut hexec hret rfl (Or.inr (Or.inr (Or.inl rfl))) (hb hbytes d8) hl)⟩
end CodL
/-- the String at a is Latin-1 over a new byte[] (the heap's one new cell): the low bytes of the len chars of A from o on; every cell but a is kept -/
def Got (a : Addr) (D : Cell) (fV fC : Field) (A : Cell) (o len : Nat) (r : Option Value) (s u : State) : Prop := r = none ∧ ∃ D' V : Cell, Blank "java/lang/String" a D' u ∧ Same D D' [fV.slot, fC.slot] ∧ D'.slots[fV.slot]? = some (.ref s.heap.size) ∧ D'.slots[fC.slot]? = some (.int 0) ∧ Arr .byte s.heap.size V u ∧ V.vm = .none ∧ u.vm.findClass "[B" = some V.cls ∧ V.slots.size = len ∧ (∀ j, j < len → V.slots[j]? = some (.int (lo8 (cv A (o + j))))) ∧ (∀ (y : Addr) (c : Cell), y ≠ a → s.heap[y]? = some c → u.heap[y]? = some c) ∧ u.heap.size = s.heap.size + 1
theorem Got.mv {a : Addr} {D A : Cell} {fV fC : Field} {o len : Nat} : ∀ r (U U' V V' : State), U'.heap = U.heap → V.vm.Alike V'.vm → V'.heap = V.heap → Got a D fV fC A o len r U V → Got a D fV fC A o len r U' V' :=
  fun r U U' V V' h1 hal h2 ⟨e0, D', X, a1, a2, a3, a4, a5, a6, a7, a8, a9, a10, a11⟩ => ⟨e0, D', X, a1.mv hal h2, a2, by rw [h1]; exact a3, a4, by rw [h1]; exact a5.mv hal h2, a6, by rw [hal.findClass]; exact a7, a8, a9, by rw [h1, h2]; exact a10, by rw [h1, h2]; exact a11⟩
namespace New4
def yN : MethodName := ⟨"java/lang/String", "<init>", "([CIILjava/lang/Void;)V"⟩
abbrev yB : ByteArray := jdk_42_method_149_code
theorem d0 : decode yB 0 = .ok (.aload_n 0, 1) := by decide +kernel
theorem d1 : decode yB 1 = .ok (.invokespecial 1, 3) := by decide +kernel
theorem d4 : decode yB 4 = .ok (.iload_n 3, 1) := by decide +kernel
theorem d5 : decode yB 5 = .ok (.ifCond (.ne) 22, 3) := by decide +kernel
theorem d27 : decode yB 27 = .ok (.getstatic 38, 3) := by decide +kernel
theorem d30 : decode yB 30 = .ok (.ifCond (.eq) 28, 3) := by decide +kernel
theorem d33 : decode yB 33 = .ok (.aload_n 1, 1) := by decide +kernel
theorem d34 : decode yB 34 = .ok (.iload_n 2, 1) := by decide +kernel
theorem d35 : decode yB 35 = .ok (.iload_n 3, 1) := by decide +kernel
theorem d36 : decode yB 36 = .ok (.invokestatic 177, 3) := by decide +kernel
theorem d39 : decode yB 39 = .ok (.astore 5, 2) := by decide +kernel
theorem d41 : decode yB 41 = .ok (.aload_n 0, 1) := by decide +kernel
theorem d42 : decode yB 42 = .ok (.aload 5, 2) := by decide +kernel
theorem d44 : decode yB 44 = .ok (.iload_n 3, 1) := by decide +kernel
theorem d45 : decode yB 45 = .ok (.invokestatic 47, 3) := by decide +kernel
theorem d48 : decode yB 48 = .ok (.putfield 15, 3) := by decide +kernel
theorem d51 : decode yB 51 = .ok (.aload_n 0, 1) := by decide +kernel
theorem d52 : decode yB 52 = .ok (.aload 5, 2) := by decide +kernel
theorem d54 : decode yB 54 = .ok (.putfield 9, 3) := by decide +kernel
theorem d57 : decode yB 57 = .ok (.return_, 1) := by decide +kernel
def site : List Cond := [.fieldLink "java/lang/String" 38 "java/lang/String" "COMPACT_STRINGS" "Z", Cmp3.tab, CodL.tab, .laysFinal "java/lang/String" "java/lang/String" "value" "[B", .fieldLink "java/lang/String" 9 "java/lang/String" "value" "[B", .laysFinal "java/lang/String" "java/lang/String" "coder" "B", .fieldLink "java/lang/String" 15 "java/lang/String" "coder" "B"] ++ objW "java/lang/String" 1 ++ staticW "java/lang/String" 177 Cmp3.yN ++ staticW "java/lang/String" 47 CodL.yN
def tab : Cond := tabOf yN yB 6 none site
def P (a : Addr) (D : Cell) (fV fC : Field) (b : Addr) (A : Cell) (z : Int32) (o len : Nat) (args : Array Value) (s : State) : Prop := args = #[.ref a, .ref b, .int (Int32.ofNat o), .int (Int32.ofNat len), .null] ∧ Blank "java/lang/String" a D s ∧ Found "java/lang/String" "value" "[B" fV s ∧ Found "java/lang/String" "coder" "B" fC s ∧ Ch b A s ∧ StaticIs s "java/lang/String" "COMPACT_STRINGS" "Z" (.int z) ∧ ¬ z = 0 ∧ 0 < len ∧ o + len ≤ A.slots.size ∧ len ≤ 536870912 ∧ ∀ i, i < len → ¬ 255 < cv A (o + i)
def E (a : Addr) (D : Cell) (fV fC : Field) (A : Cell) (o len : Nat) (r : Option Value) (s u : State) : Prop := Got a D fV fC A o len r s u
/-- len > 0, no char of the range above 255: a Latin-1 String of their low bytes -/
theorem law (l : Launch) (a : Addr) (D : Cell) (fV fC : Field) (b : Addr) (A : Cell) (z : Int32) (o len : Nat) : Law l yN 5 4 2 35 yB 6 none site (P a D fV fC b A z o len) (E a D fV fC A o len) [⟨a, fC.slot⟩, ⟨a, fV.slot⟩] 1 len := by
  refine Law.of_walk (plainFor_of_name (by decide +kernel)) (by decide +kernel) (by decide +kernel) (by decide) (fun _ _ h => by rw [h.1]; rfl) (fun _ U U' hal hh h => ⟨h.1, h.2.1.mv hal hh, h.2.2.1.al hal, h.2.2.2.1.al hal, h.2.2.2.2.1.mv hal hh, h.2.2.2.2.2.1.there hal hh, h.2.2.2.2.2.2⟩) (fun r U U' V V' h1 hal h2 h => Got.mv r U U' V V' h1 hal h2 h) ?_
  intro p e s m args below meth c s₁ X0 hexec hbytes hml hret hlk hnm hown hh0 W hP
  obtain ⟨rfl, hB, f1, f2, hA, s1, hz, l0, l1, l2, hp⟩ := hP
  have a31 := hA.1.2.2.2
  have c1 : Steps p.tables e below (s₁.setTop (entryFrame m #[.ref a, .ref b, .int (Int32.ofNat o), .int (Int32.ofNat len), .null] 6)) (s₁.setTop (mkF m 0 #[.val (.ref a), .val (.ref b), .val (.int (Int32.ofNat o)), .val (.int (Int32.ofNat len)), .val .null, .unset] [])) := entry rfl
  have c2 : Steps p.tables e below (s₁.setTop (entryFrame m #[.ref a, .ref b, .int (Int32.ofNat o), .int (Int32.ofNat len), .null] 6)) (s₁.setTop (mkF m 1 #[.val (.ref a), .val (.ref b), .val (.int (Int32.ofNat o)), .val (.int (Int32.ofNat len)), .val .null, .unset] [.ref a])) := c1.trans (by
    refine XS.aloadN X0.here hexec rfl (hb hbytes d0) rfl rfl ?_
    exact Steps.refl _)
  obtain ⟨T3, X3, q3, st3⟩ := X0.oinit hexec hown (wks W (objW "java/lang/String" 1)) (g := (mkF m 1 #[.val (.ref a), .val (.ref b), .val (.int (Int32.ofNat o)), .val (.int (Int32.ofNat len)), .val .null, .unset] [.ref a])) rfl (by rw [hml]; rfl) (rest := []) rfl (hb hbytes d1) (W := 0) (by show 2 * 0 + 0 ≤ _; decide) (Nat.le_of_ble_eq_true rfl) (Nat.le_of_ble_eq_true rfl)
  have hh3 := q3.trans hh0
  have c4 : Steps p.tables e below (s₁.setTop (entryFrame m #[.ref a, .ref b, .int (Int32.ofNat o), .int (Int32.ofNat len), .null] 6)) (T3.setTop (mkF m 27 #[.val (.ref a), .val (.ref b), .val (.int (Int32.ofNat o)), .val (.int (Int32.ofNat len)), .val .null, .unset] [])) := (c2.trans (st3 _ (Steps.refl _))).trans (by
    refine XS.iloadN X3.here hexec rfl (hb hbytes d4) rfl ?_
    refine XS.ifYes X3.here hexec rfl (pc0 := 5) rfl (hb hbytes d5) rfl (i0_ne_t (nz32 (by omega) l0)) (by decide) rfl ?_
    exact Steps.refl _)
  obtain ⟨T5, X5, q5, st5⟩ := X3.sget hexec hown (wk W (.fieldLink "java/lang/String" 38 "java/lang/String" "COMPACT_STRINGS" "Z")) s1 (fun _ _ h => by rw [hh3]; exact h) (g := (mkF m 27 #[.val (.ref a), .val (.ref b), .val (.int (Int32.ofNat o)), .val (.int (Int32.ofNat len)), .val .null, .unset] [])) rfl (hb hbytes d27)
  have hh5 := q5.trans hh3
  have c6 : Steps p.tables e below (s₁.setTop (entryFrame m #[.ref a, .ref b, .int (Int32.ofNat o), .int (Int32.ofNat len), .null] 6)) (T5.setTop (mkF m 30 #[.val (.ref a), .val (.ref b), .val (.int (Int32.ofNat o)), .val (.int (Int32.ofNat len)), .val .null, .unset] [.int z])) := c4.trans (st5 _ (Steps.refl _))
  have c7 : Steps p.tables e below (s₁.setTop (entryFrame m #[.ref a, .ref b, .int (Int32.ofNat o), .int (Int32.ofNat len), .null] 6)) (T5.setTop (mkF m 36 #[.val (.ref a), .val (.ref b), .val (.int (Int32.ofNat o)), .val (.int (Int32.ofNat len)), .val .null, .unset] [.int (Int32.ofNat len), .int (Int32.ofNat o), .ref b])) := c6.trans (by
    refine XS.ifNo X5.here hexec rfl (hb hbytes d30) rfl (i0_eq_f hz) ?_
    refine XS.aloadN X5.here hexec rfl (hb hbytes d33) rfl rfl ?_
    refine XS.iloadN X5.here hexec rfl (hb hbytes d34) rfl ?_
    refine XS.iloadN X5.here hexec rfl (hb hbytes d35) rfl ?_
    exact Steps.refl _)
  obtain ⟨v8, T8, X8, E8, g8⟩ := X5.callS hexec (Cmp3.law l b A o len) hown (wks W (staticW "java/lang/String" 177 Cmp3.yN)) (wk W Cmp3.tab) (W := 0) (Nat.le_of_ble_eq_true rfl) (Nat.le_of_ble_eq_true rfl) (Nat.le_refl _) (by show 0 + len ≤ len; omega) (g := (mkF m 36 #[.val (.ref a), .val (.ref b), .val (.int (Int32.ofNat o)), .val (.int (Int32.ofNat len)), .val .null, .unset] [.int (Int32.ofNat len), .int (Int32.ofNat o), .ref b])) rfl (by rw [hml]; rfl) c7 (argsL := [.ref b, .int (Int32.ofNat o), .int (Int32.ofNat len)]) (rest := []) rfl rfl (by show 2 * 0 + 0 ≤ _; decide) (hb hbytes d36) (⟨rfl, hA.mv X5.warmed.alike hh5, l1, l2, hp⟩)
  obtain ⟨e8, z8⟩ := E8
  obtain ⟨rfl, N, n1, n2, n3, n4, n5, n6⟩ := NewArr.mv _ T5 s _ _ hh5.symm (Vm.Alike.refl _) rfl e8
  rw [hh5] at z8
  have hB1 := hB.keep X8.warmed.alike (n6 _ _ hB.1)
  have hne : s.heap.size ≠ a := (Nat.ne_of_lt (Array.getElem?_eq_some_iff.mp hB.1).1).symm
  have c9 : Steps p.tables e below (s₁.setTop (entryFrame m #[.ref a, .ref b, .int (Int32.ofNat o), .int (Int32.ofNat len), .null] 6)) (T8.setTop (mkF m 39 #[.val (.ref a), .val (.ref b), .val (.int (Int32.ofNat o)), .val (.int (Int32.ofNat len)), .val .null, .unset] [.ref s.heap.size])) := g8
  have c10 : Steps p.tables e below (s₁.setTop (entryFrame m #[.ref a, .ref b, .int (Int32.ofNat o), .int (Int32.ofNat len), .null] 6)) (T8.setTop (mkF m 45 #[.val (.ref a), .val (.ref b), .val (.int (Int32.ofNat o)), .val (.int (Int32.ofNat len)), .val .null, .val (.ref s.heap.size)] [.int (Int32.ofNat N.slots.size), .ref s.heap.size, .ref a])) := by
    have hc : Steps p.tables e below (s₁.setTop (entryFrame m #[.ref a, .ref b, .int (Int32.ofNat o), .int (Int32.ofNat len), .null] 6)) (T8.setTop (mkF m 45 #[.val (.ref a), .val (.ref b), .val (.int (Int32.ofNat o)), .val (.int (Int32.ofNat len)), .val .null, .val (.ref s.heap.size)] [.int (Int32.ofNat len), .ref s.heap.size, .ref a])) := c9.trans (by
      refine XS.astore X8.here hexec rfl (hb hbytes d39) rfl rfl rfl ?_
      refine XS.aloadN X8.here hexec rfl (hb hbytes d41) rfl rfl ?_
      refine XS.aload X8.here hexec rfl (hb hbytes d42) rfl rfl ?_
      refine XS.iloadN X8.here hexec rfl (hb hbytes d44) rfl ?_
      exact Steps.refl _)
    rw [n4]; exact hc
  obtain ⟨v11, T11, X11, E11, g11⟩ := X8.callS hexec (CodL.law l s.heap.size N) hown (wks W (staticW "java/lang/String" 47 CodL.yN)) (wk W CodL.tab) (W := 1) (Nat.le_of_ble_eq_true rfl) (Nat.le_of_ble_eq_true rfl) (Nat.le_refl _) (by show 0 + len + 0 ≤ len; omega) (g := (mkF m 45 #[.val (.ref a), .val (.ref b), .val (.int (Int32.ofNat o)), .val (.int (Int32.ofNat len)), .val .null, .val (.ref s.heap.size)] [.int (Int32.ofNat N.slots.size), .ref s.heap.size, .ref a])) rfl (by rw [hml]; rfl) c10 (argsL := [.ref s.heap.size, .int (Int32.ofNat N.slots.size)]) (rest := [.ref a]) rfl rfl (by show 2 * 0 + (1 + 0) ≤ _; decide) (hb hbytes d45) (⟨rfl, n1⟩)
  obtain ⟨rfl, q11⟩ := E11
  have hB11 := hB1.mv (X8.warmed.alike.symm.trans X11.warmed.alike) q11
  have c12 : Steps p.tables e below (s₁.setTop (entryFrame m #[.ref a, .ref b, .int (Int32.ofNat o), .int (Int32.ofNat len), .null] 6)) (T11.setTop (mkF m 48 #[.val (.ref a), .val (.ref b), .val (.int (Int32.ofNat o)), .val (.int (Int32.ofNat len)), .val .null, .val (.ref s.heap.size)] [.int 0, .ref a])) := g11
  obtain ⟨T13, X13, p13, bl13, sl13, st13⟩ := X11.finit hexec hown (wk W (.fieldLink "java/lang/String" 15 "java/lang/String" "coder" "B")) (Or.inr ⟨_, (wk W (.laysFinal "java/lang/String" "java/lang/String" "coder" "B"))⟩) (Or.inl ⟨rfl, hnm⟩) f2 (Or.inl rfl) hB11 (t := .byte) (by decide +kernel) rfl (g := (mkF m 48 #[.val (.ref a), .val (.ref b), .val (.int (Int32.ofNat o)), .val (.int (Int32.ofNat len)), .val .null, .val (.ref s.heap.size)] [.int 0, .ref a])) rfl (rest := []) rfl (hb hbytes d48)
  have c14 : Steps p.tables e below (s₁.setTop (entryFrame m #[.ref a, .ref b, .int (Int32.ofNat o), .int (Int32.ofNat len), .null] 6)) (T13.setTop (mkF m 54 #[.val (.ref a), .val (.ref b), .val (.int (Int32.ofNat o)), .val (.int (Int32.ofNat len)), .val .null, .val (.ref s.heap.size)] [.ref s.heap.size, .ref a])) := (c12.trans (st13 _ (Steps.refl _))).trans (by
    refine XS.aloadN X13.here hexec rfl (hb hbytes d51) rfl rfl ?_
    refine XS.aload X13.here hexec rfl (hb hbytes d52) rfl rfl ?_
    exact Steps.refl _)
  obtain ⟨T15, X15, p15, bl15, sl15, st15⟩ := X13.finit hexec hown (wk W (.fieldLink "java/lang/String" 9 "java/lang/String" "value" "[B")) (Or.inr ⟨_, (wk W (.laysFinal "java/lang/String" "java/lang/String" "value" "[B"))⟩) (Or.inl ⟨rfl, hnm⟩) f1 (Or.inl rfl) bl13 (t := (.array .byte)) (by decide +kernel) rfl (g := (mkF m 54 #[.val (.ref a), .val (.ref b), .val (.int (Int32.ofNat o)), .val (.int (Int32.ofNat len)), .val .null, .val (.ref s.heap.size)] [.ref s.heap.size, .ref a])) rfl (rest := []) rfl (hb hbytes d54)
  have c16 : Steps p.tables e below (s₁.setTop (entryFrame m #[.ref a, .ref b, .int (Int32.ofNat o), .int (Int32.ofNat len), .null] 6)) (T15.setTop (mkF m 57 #[.val (.ref a), .val (.ref b), .val (.int (Int32.ofNat o)), .val (.int (Int32.ofNat len)), .val .null, .val (.ref s.heap.size)] [])) := c14.trans (st15 _ (Steps.refl _))
  have ap := apart (Or.inr ⟨_, (wk W (.laysFinal "java/lang/String" "java/lang/String" "value" "[B"))⟩) (Or.inr ⟨_, (wk W (.laysFinal "java/lang/String" "java/lang/String" "coder" "B"))⟩) f1 f2 (t₁ := .array .byte) (t₂ := .byte) (by decide +kernel) (by decide +kernel) (by decide)
  have al := X8.warmed.alike.symm.trans X15.warmed.alike
  have n7 : T11.heap[s.heap.size]? = some N := by rw [q11]; exact n1.1
  exact ⟨T15, none, _, _, _, X15, by simp, rfl, by omega, (fun _ => rfl), ⟨rfl, _, N, bl15, ((Same.refl D _).set _ (by simp)).set _ (by simp), sl15, (Cell.slots_setSlot_ne _ ap).trans sl13, n1.keep al (p15.other hne (p13.other hne n7)), n2, by rw [al.findClass]; exact n3, n4, n5, fun y c h1 h2 => p15.other h1 (p13.other h1 (by rw [q11]; exact n6 y c h2)), by rw [p15.2.2, p13.2.2, q11]; exact z8⟩, fun fs hl => c16.trans (X15.returnOut hexec hret (hb hbytes d57) hl)⟩
end New4
namespace New1
def yN : MethodName := ⟨"java/lang/String", "<init>", "([C)V"⟩
abbrev yB : ByteArray := jdk_42_method_3_code
theorem d0 : decode yB 0 = .ok (.aload_n 0, 1) := by decide +kernel
theorem d1 : decode yB 1 = .ok (.aload_n 1, 1) := by decide +kernel
theorem d2 : decode yB 2 = .ok (.iconst 0, 1) := by decide +kernel
theorem d3 : decode yB 3 = .ok (.aload_n 1, 1) := by decide +kernel
theorem d4 : decode yB 4 = .ok (.arraylength, 1) := by decide +kernel
theorem d5 : decode yB 5 = .ok (.aconst_null, 1) := by decide +kernel
theorem d6 : decode yB 6 = .ok (.invokespecial 27, 3) := by decide +kernel
theorem d9 : decode yB 9 = .ok (.return_, 1) := by decide +kernel
def site : List Cond := [New4.tab] ++ initW "java/lang/String" 27 New4.yN
def tab : Cond := tabOf yN yB 2 none site
def P (a : Addr) (D : Cell) (fV fC : Field) (b : Addr) (A : Cell) (z : Int32) (args : Array Value) (s : State) : Prop := args = #[.ref a, .ref b] ∧ Blank "java/lang/String" a D s ∧ Found "java/lang/String" "value" "[B" fV s ∧ Found "java/lang/String" "coder" "B" fC s ∧ Ch b A s ∧ StaticIs s "java/lang/String" "COMPACT_STRINGS" "Z" (.int z) ∧ ¬ z = 0 ∧ 0 < A.slots.size ∧ A.slots.size ≤ 536870912 ∧ ∀ i, i < A.slots.size → ¬ 255 < cv A i
def E (a : Addr) (D : Cell) (fV fC : Field) (A : Cell) (r : Option Value) (s u : State) : Prop := Got a D fV fC A 0 A.slots.size r s u
/-- new String(chars), not empty, no char above 255: a Latin-1 String of their low bytes -/
theorem law (l : Launch) (a : Addr) (D : Cell) (fV fC : Field) (b : Addr) (A : Cell) (z : Int32) : Law l yN 2 1 3 52 yB 2 none site (P a D fV fC b A z) (E a D fV fC A) [⟨a, fC.slot⟩, ⟨a, fV.slot⟩] 1 A.slots.size := by
  refine Law.of_walk (plainFor_of_name (by decide +kernel)) (by decide +kernel) (by decide +kernel) (by decide) (fun _ _ h => by rw [h.1]; rfl) (fun _ U U' hal hh h => ⟨h.1, h.2.1.mv hal hh, h.2.2.1.al hal, h.2.2.2.1.al hal, h.2.2.2.2.1.mv hal hh, h.2.2.2.2.2.1.there hal hh, h.2.2.2.2.2.2⟩) (fun r U U' V V' h1 hal h2 h => Got.mv r U U' V V' h1 hal h2 h) ?_
  intro p e s m args below meth c s₁ X0 hexec hbytes hml hret hlk hnm hown hh0 W hP
  obtain ⟨rfl, hB, f1, f2, hA, s1, hz, l0, l2, hp⟩ := hP
  have c1 : Steps p.tables e below (s₁.setTop (entryFrame m #[.ref a, .ref b] 2)) (s₁.setTop (mkF m 0 #[.val (.ref a), .val (.ref b)] [])) := entry rfl
  have c2 : Steps p.tables e below (s₁.setTop (entryFrame m #[.ref a, .ref b] 2)) (s₁.setTop (mkF m 6 #[.val (.ref a), .val (.ref b)] [.null, .int (Int32.ofNat A.slots.size), .int 0, .ref b, .ref a])) := c1.trans (by
    refine XS.aloadN X0.here hexec rfl (hb hbytes d0) rfl rfl ?_
    refine XS.aloadN X0.here hexec rfl (hb hbytes d1) rfl rfl ?_
    refine iconstV X0.here hexec rfl 0 (hb hbytes d2) (by decide) ?_
    refine XS.aloadN X0.here hexec rfl (hb hbytes d3) rfl rfl ?_
    refine X0.alen hexec (hA.1.mv X0.warmed.alike hh0) rfl rfl (hb hbytes d4) ?_
    refine XS.aconstNull X0.here hexec rfl (hb hbytes d5) ?_
    exact Steps.refl _)
  obtain ⟨v3, T3, X3, E3, g3⟩ := X0.callN hexec (New4.law l a D fV fC b A z 0 A.slots.size) rfl hown (wks W (initW "java/lang/String" 27 New4.yN)) (W New4.tab (by simp only [site, List.mem_cons, List.mem_append, true_or, or_true])) (W := 0) (Nat.le_of_ble_eq_true rfl) (Nat.le_of_ble_eq_true rfl) (Nat.le_refl _) (by show 0 + A.slots.size ≤ A.slots.size; omega) (g := (mkF m 6 #[.val (.ref a), .val (.ref b)] [.null, .int (Int32.ofNat A.slots.size), .int (Int32.ofNat 0), .ref b, .ref a])) rfl (by rw [hml]; rfl) c2 (argsL := [.ref b, .int (Int32.ofNat 0), .int (Int32.ofNat A.slots.size), .null]) (rest := []) rfl rfl (by show 2 * 0 + 0 ≤ _; decide) (hb hbytes d6) (⟨rfl, hB.mv X0.warmed.alike hh0, f1.al X0.warmed.alike, f2.al X0.warmed.alike, hA.mv X0.warmed.alike hh0, s1.there X0.warmed.alike hh0, hz, l0, by omega, l2, fun i hi => by rw [Nat.zero_add]; exact hp i hi⟩)
  have e0 := Got.mv _ s₁ s _ _ hh0.symm (Vm.Alike.refl _) rfl E3
  obtain rfl := e0.1
  have c4 : Steps p.tables e below (s₁.setTop (entryFrame m #[.ref a, .ref b] 2)) (T3.setTop (mkF m 9 #[.val (.ref a), .val (.ref b)] [])) := g3
  exact ⟨T3, none, _, _, _, X3, by simp, rfl, by omega, (fun _ => rfl), e0, fun fs hl => c4.trans (X3.returnOut hexec hret (hb hbytes d9) hl)⟩
theorem pays {l : Launch} {R : Room} {p : Program} {e : Env} {below : List Frame} {s : State} {sargs : Array Value} {len W : Nat} (a : Addr) (D : Cell) (fV fC : Field) (b : Addr) (A : Cell) (z : Int32) (htab : tab.before sargs s = true) (hfr : 4 ≤ R.frames) (hlo : W + 65 ≤ R.locals) :
    Back l R p e below s sargs yN len W (fun A₁ a₁ => A₁.cells + 1 ≤ R.cells ∧ A₁.slots + A.slots.size ≤ R.slots ∧ P a D fV fC b A z a₁ A₁.U) (fun A₁ _ v₁ B₁ => E a D fV fC A v₁ A₁.U B₁.U ∧ B₁.locs = A₁.locs ++ [⟨a, fC.slot⟩, ⟨a, fV.slot⟩] ∧ B₁.cells = A₁.cells + 1 ∧ B₁.slots = A₁.slots + A.slots.size) :=
  (law l a D fV fC b A z).pays htab hfr (by omega)
end New1
/-- the byte, read back as charAt reads it, is the char -/
theorem lo8_mask {x : Int32} (h0 : ¬ x < 0) (h1 : ¬ 255 < x) : lo8 x &&& 255 = x := by
  have t : ∀ k : Fin 256, lo8 (Int32.ofNat k.val) &&& 255 = Int32.ofNat k.val := by decide +kernel
  rw [Int32.lt_iff_toInt_lt] at h0 h1
  have e0 : (0 : Int32).toInt = 0 := rfl
  have e1 : (255 : Int32).toInt = 255 := rfl
  obtain ⟨k, hk⟩ : ∃ k : Nat, x.toInt = k := ⟨x.toInt.toNat, by omega⟩
  have hx : x = Int32.ofNat k := Int32.toInt_inj.mp (by rw [hk, Int32.toInt_ofNat_small (by omega)])
  rw [hx]
  exact t ⟨k, by omega⟩
end StrChars
namespace StrChars.Road
open Jvm Sem ClassFile Op Lib Jvm.Stand Jvm.Free Jvm.Free.XT
open Jvm.Lib.Cold (StaticIs)
abbrev ST : String := "java/lang/String"
/-- every table word that New1's law asks, flat -/
abbrev words : List Jvm.Cond := [.code New1.yN New1.yB 2 none, .initialized ST, .methodLink ST 27 New4.yN, .instanceMethod New4.yN,
  .code New4.yN New4.yB 6 none, .fieldLink ST 38 ST "COMPACT_STRINGS" "Z", .laysFinal ST ST "value" "[B", .fieldLink ST 9 ST "value" "[B", .laysFinal ST ST "coder" "B", .fieldLink ST 15 ST "coder" "B",
  .methodLink ST 1 Lib.objectInit, .instanceMethod Lib.objectInit, .code Lib.objectInit ⟨#[0xb1]⟩ 1 none, .methodLink ST 177 Cmp3.yN, .static Cmp3.yN, .methodLink ST 47 CodL.yN, .static CodL.yN,
  .code Cmp3.yN Cmp3.yB 6 (some (.array .byte)), .initialized U16, .arrayClass .byte, .methodLink U16 115 Cmp5.yN, .static Cmp5.yN, .code Cmp5.yN Cmp5.yB 7 (some .int), .code CodL.yN CodL.yB 2 (some .byte)]
theorem tab_of {a : Array Value} {s : State} (h : ∀ w ∈ words, w.before a s = true) : New1.tab.before a s = true := by
  have h5 : Cmp5.tab.before a s = true := unparts (wk h (.code Cmp5.yN Cmp5.yB 7 (some .int))) (wks h (.initialized Cmp5.yN.cls :: Cmp5.site))
  have hc : CodL.tab.before a s = true := unparts (wk h (.code CodL.yN CodL.yB 2 (some .byte))) (wks h (.initialized CodL.yN.cls :: CodL.site))
  have q5 : ∀ w ∈ Cmp5.tab :: words, w.before a s = true := fun w hw => (List.mem_cons.mp hw).elim (fun e => e ▸ h5) (h w)
  have h3 : Cmp3.tab.before a s = true := unparts (wk q5 (.code Cmp3.yN Cmp3.yB 6 (some (.array .byte)))) (wks q5 (.initialized Cmp3.yN.cls :: Cmp3.site))
  have q3 : ∀ w ∈ Cmp3.tab :: CodL.tab :: words, w.before a s = true := fun w hw => (List.mem_cons.mp hw).elim (fun e => e ▸ h3) fun hw => (List.mem_cons.mp hw).elim (fun e => e ▸ hc) (h w)
  have h4 : New4.tab.before a s = true := unparts (wk q3 (.code New4.yN New4.yB 6 none)) (wks q3 (.initialized New4.yN.cls :: New4.site))
  have q4 : ∀ w ∈ New4.tab :: words, w.before a s = true := fun w hw => (List.mem_cons.mp hw).elim (fun e => e ▸ h4) (h w)
  exact unparts (wk q4 (.code New1.yN New1.yB 2 none)) (wks q4 (.initialized New1.yN.cls :: New1.site))
/-- the words ride from the start Z to the walk's own state -/
theorem moved {Z s : State} {a0 args : Array Value} (hZ : Z.Warmed39 s.vm) (hw : ∀ d ∈ words, d.before a0 Z = true) : ∀ d ∈ words, d.before args s = true := fun d hd => by
  have q := hw d hd
  have t : ∀ d ∈ words, d = .arrayClass .byte ∨ (d.onTables && d.keepsFace) = true := by decide +kernel
  rcases t d hd with rfl | t
  · exact RoadKit.mvA hZ q
  · exact RoadKit.mv hZ q t
/-- WHAT COMES BACK, over the tables of the start Z: h the heap at the call, h' behind it -/
def Q (Z : State) (x : Addr) (A : Cell) (h : Heap) (v : Option Value) (h' : Heap) (L : List Loc) : Prop := v = none ∧ (∀ y ∈ L, y.base = x) ∧ RoadKit.Keep h h' [x] ∧ h'.size = h.size + 1 ∧ RoadKit.Exa Z h' x ST ∧ RoadKit.Fld Z h' x ST "value" "[B" (.ref h.size) ∧ RoadKit.Fld Z h' x ST "coder" "B" (.int 0) ∧
  (∃ V : Cell, RoadKit.Arr Z h' h.size V .byte ∧ V.vm = .none ∧ Z.vm.findClass "[B" = some V.cls ∧ V.slots.size = A.slots.size ∧ ∀ j, j < A.slots.size → V.slots[j]? = some (.int (lo8 (cv A j)))) ∧
  ∀ (O n d : String) (w : Value), RoadKit.Fld Z h x O n d w → RoadKit.slotOf Z O n d ≠ RoadKit.slotOf Z ST "value" "[B" → RoadKit.slotOf Z O n d ≠ RoadKit.slotOf Z ST "coder" "B" → RoadKit.Fld Z h' x O n d w
/-- **new String(chars) AT A CALL, IN THE ROAD'S FORM**: for specialBack behind newO: x the fresh String, b the char[] with the cell A -/
theorem back {p : Program} {l : Launch} {e : Env} {R : Room} {s : State} {args : Array Value} {below : List Frame} {len W : Nat} {Z : State} {a0 : Array Value} {h : Heap} (hZ : Z.Warmed39 s.vm) (hw : ∀ d ∈ words, d.before a0 Z = true) {kI : Nat} (wi : (Jvm.Cond.instantiable ST kI).before a0 Z = true)
    {x b : Addr} {A : Cell} {z : Int32} {v0 c0 : Value} (E : RoadKit.Exa Z h x ST) (V : RoadKit.Fld Z h x ST "value" "[B" v0) (C : RoadKit.Fld Z h x ST "coder" "B" c0) (K : RoadKit.Arr Z h b A .char) (hty : Typed .char A) (S : RoadKit.Sta Z h ST "COMPACT_STRINGS" "Z" (.int z)) (hz : ¬ z = 0)
    (l0 : 0 < A.slots.size) (l2 : A.slots.size ≤ 536870912) (hp : ∀ i, i < A.slots.size → ¬ 255 < cv A i) (hfr : 4 ≤ R.frames) (hlo : W + 65 ≤ R.locals) :
    Back l R p e below s args New1.yN len W (fun P a => a = #[.ref x, .ref b] ∧ P.U.heap = h ∧ P.cells + 1 ≤ R.cells ∧ P.slots + A.slots.size ≤ R.slots)
      (fun P _ v B => ∃ L, Q Z x A h v B.U.heap L ∧ B.locs = P.locs ++ L ∧ B.cells = P.cells + 1 ∧ B.slots = P.slots + A.slots.size) := by
  intro m meth c P g ig mk a X hg hsize hdg hW hn hp'
  obtain ⟨rfl, rfl, r1, r2⟩ := hp'
  have al : Z.vm.Alike P.U.vm := hZ.alike.trans X.warmed.alike
  obtain ⟨D, cfV, kV, iV, fV, hD, gV, stV, knV, obV, asV, slV⟩ := id V
  obtain ⟨D', cfC, kC, iC, fC, hD', gC, stC, -, -, asC, slC⟩ := id C
  cases hD.symm.trans hD'
  obtain ⟨D2, kD, e1, e2, e3, e4, e5⟩ := id E
  cases hD.symm.trans e1
  obtain ⟨c2, k2, i1, i2, i3, -⟩ := Cond.instantiable_spec wi
  cases e2.symm.trans i1
  cases e3.symm.trans i2
  obtain ⟨kU, u1, u2⟩ := al.2.2 _ _ e3
  have hB : Blank ST x D P.U := ⟨hD, ⟨knV, fun q hq => by rw [hq] at obV; cases obV⟩, by rw [al.findClass]; exact e2, kU, u1, by rw [u2]; exact i3, by rw [u2]; exact e5 i3⟩
  have F1 : Found ST "value" "[B" fV P.U := ⟨SBG.found_only al ⟨cfV, kV, iV, gV⟩, stV⟩
  have F2 : Found ST "coder" "B" fC P.U := ⟨SBG.found_only al ⟨cfC, kC, iC, gC⟩, stC⟩
  have hA : Ch b A P.U := ⟨⟨K.1, State.isArrayOf_alike al K.2.1, K.2.2, by omega⟩, hty⟩
  have hS : StaticIs P.U ST "COMPACT_STRINGS" "Z" (.int z) := by
    obtain ⟨cfS, iS, kS, fS, st, cS, t1, t2, t3, t4, t5, t6, t7⟩ := S
    exact StaticIs.there (s := { Z with heap := P.U.heap }) ⟨cfS, iS, kS, fS, st, cS, t1, t2, t3, t4, t5, (fun q => by rw [q] at t6; cases t6), t7⟩ al rfl
  obtain ⟨v, B, X', ⟨⟨hv, E', V', q1, q2, q3, q4, q5, q6, q7, q8, q9, q10, q11⟩, hl, hc, hs⟩, st⟩ := New1.pays x D fV fC b A z (tab_of (moved hZ hw)) hfr hlo m meth c P g ig mk _ X hg hsize hdg hW hn ⟨r1, r2, rfl, hB, F1, F2, hA, hS, hz, l0, l2, hp⟩
  have al' : Z.vm.Alike B.U.vm := hZ.alike.trans X'.warmed.alike
  have hsz : E'.slots.size = D.slots.size := by
    obtain ⟨-, -, -, kB, w1, w2, w3⟩ := q1
    obtain ⟨kB', y1, y2⟩ := al'.2.2 _ _ e3
    rw [q2.2.1] at w1
    cases w1.symm.trans y1
    rw [w3, e5 i3, y2]
  refine ⟨v, B, X', ⟨_, ⟨hv, ?_, ⟨by omega, fun y cy hy hn' => q10 y cy (by simpa using hn') hy, fun y cy hy => ?_⟩, q11, ⟨E', _, q1.1, by rw [q2.2.1]; exact e2, by rw [q2.2.1]; exact e3, by rw [q2.1]; exact obV, fun _ => by rw [hsz]; exact e5 i3⟩,
    ⟨E', cfV, kV, iV, fV, q1.1, gV, stV, by rw [q2.1]; exact knV, by rw [q2.1]; exact obV, by rw [q2.2.1]; exact asV, q3⟩, ⟨E', cfC, kC, iC, fC, q1.1, gC, stC, by rw [q2.1]; exact knV, by rw [q2.1]; exact obV, by rw [q2.2.1]; exact asC, q4⟩,
    ⟨V', ⟨q5.1, State.isArrayOf_alike al'.symm q5.2.1, q5.2.2.1⟩, q6, by rw [← al'.findClass]; exact q7, q8, fun j hj => by have := q9 j hj; rwa [Nat.zero_add] at this⟩, fun O n d w F n1 n2 => ?_⟩, hl, hc, hs⟩, st⟩
  · intro y hy
    simp only [List.mem_cons, List.not_mem_nil, or_false] at hy
    rcases hy with rfl | rfl <;> rfl
  · by_cases q : y = x
    · subst q
      cases hD.symm.trans hy
      exact ⟨E', q1.1, q2.2.1, q2.1, hsz⟩
    · exact ⟨cy, q10 y cy q hy, rfl, rfl, rfl⟩
  · obtain ⟨D3, cf, k, i, f, g1, g2, g3, g4, g5, g6, g7⟩ := F
    cases hD.symm.trans g1
    simp only [RoadKit.slotOf, g2, gV, gC, Option.map_some, Option.getD_some] at n1 n2
    exact ⟨E', cf, k, i, f, q1.1, g2, g3, by rw [q2.1]; exact g4, by rw [q2.1]; exact g5, by rw [q2.2.1]; exact g6, by rw [q2.2.2 f.slot (by simp [n1, n2])]; exact g7⟩
end StrChars.Road
namespace StrChars.Road
open Jvm Sem ClassFile Op Lib Jvm.Stand Jvm.Free Jvm.Free.XT
/-- WHAT COMES BACK, the byte[] as a list of values -/
def QA (Z : State) (x : Addr) (zn : Int32) (cs : List Int32) (h : Heap) (v : Option Value) (h' : Heap) (L : List Loc) : Prop := v = none ∧ (∀ y ∈ L, y.base = x) ∧ RoadKit.Keep h h' [x] ∧ h'.size = h.size + 1 ∧ RoadKit.Exa Z h' x ST ∧ RoadKit.Fld Z h' x ST "value" "[B" (.ref h.size) ∧ RoadKit.Fld Z h' x ST "coder" "B" (.int 0) ∧
  (∃ kb, Z.vm.findClass "[B" = some kb ∧ RoadKit.Arv Z h' h.size kb .byte zn (cs.map fun c => .int (lo8 c)) (.int 0)) ∧
  ∀ (O n d : String) (w : Value), RoadKit.Fld Z h x O n d w → RoadKit.slotOf Z O n d ≠ RoadKit.slotOf Z ST "value" "[B" → RoadKit.slotOf Z O n d ≠ RoadKit.slotOf Z ST "coder" "B" → RoadKit.Fld Z h' x O n d w
/-- **new String(chars) AT A CALL, THE ARRAYS AS LISTS**: the char[] at b holds cs, not empty, no char above 255 -/
theorem backArv {p : Program} {l : Launch} {e : Env} {R : Room} {s : State} {args : Array Value} {below : List Frame} {len W : Nat} {Z : State} {a0 : Array Value} {h : Heap} (hZ : Z.Warmed39 s.vm) (hw : ∀ d ∈ words, d.before a0 Z = true) {kI : Nat} (wi : (Jvm.Cond.instantiable ST kI).before a0 Z = true)
    {x b : Addr} {k : ClassId} {zn z : Int32} {cs : List Int32} {dv v0 c0 : Value} (E : RoadKit.Exa Z h x ST) (V : RoadKit.Fld Z h x ST "value" "[B" v0) (C : RoadKit.Fld Z h x ST "coder" "B" c0) (K : RoadKit.Arv Z h b k .char zn (cs.map Value.int) dv) (S : RoadKit.Sta Z h ST "COMPACT_STRINGS" "Z" (.int z)) (hz : ¬ z = 0)
    (hlen : zn.toNatClampNeg = cs.length) (h0 : 0 < cs.length) (hbig : cs.length ≤ 536870912) (hall : ∀ c ∈ cs, ¬ 255 < c) (hfr : 4 ≤ R.frames) (hlo : W + 65 ≤ R.locals) :
    Back l R p e below s args New1.yN len W (fun P a => a = #[.ref x, .ref b] ∧ P.U.heap = h ∧ P.cells + 1 ≤ R.cells ∧ P.slots + cs.length ≤ R.slots)
      (fun P _ v B => ∃ L, QA Z x zn cs h v B.U.heap L ∧ B.locs = P.locs ++ L ∧ B.cells = P.cells + 1 ∧ B.slots = P.slots + cs.length) := by
  obtain ⟨A, K1, K2, K3, K4, K5, K6⟩ := K
  have e : A.slots.size = cs.length := K3.trans hlen
  have hat : ∀ (i : Nat) (hi : i < cs.length), A.slots[i]? = some (.int cs[i]) := fun i hi => by rw [K5 i (by omega)]; simp [List.getD_eq_getElem?_getD, hi]
  have hcv : ∀ (i : Nat) (hi : i < cs.length), cv A i = cs[i] := fun i hi => by unfold cv; rw [hat i hi]
  have hty : Typed .char A := fun i v hv => by
    have hi : i < A.slots.size := (Array.getElem?_eq_some_iff.mp hv).1
    have q := K5 i hi
    rw [hv] at q
    rw [Option.some.inj q]
    exact K6 i hi
  refine Back.mono (back hZ hw wi E V C K1 hty S hz (by omega) (by omega) (fun i hi => by rw [hcv i (by omega)]; exact hall _ (List.getElem_mem _)) hfr hlo) (fun P a hp => ⟨hp.1, hp.2.1, hp.2.2.1, by rw [e]; exact hp.2.2.2⟩) (fun P a v B hp hq => ?_)
  obtain ⟨L, ⟨q1, q2, q3, q4, q5, q6, q7, ⟨V', v1, v2, v3, v4, v5⟩, q9⟩, hl, hc, hs⟩ := hq
  refine ⟨L, ⟨q1, q2, q3, q4, q5, q6, q7, ⟨V'.cls, v3, V', v1, rfl, by rw [v4, e, hlen], K4, fun i hi => ?_, fun i hi => ?_⟩, q9⟩, hl, hc, by rw [hs, e]⟩
  · have hi' : i < cs.length := by omega
    rw [v5 i (by omega), hcv i hi']; simp [List.getD_eq_getElem?_getD, hi']
  · have hi' : i < cs.length := by omega
    simp only [List.getD_eq_getElem?_getD, List.getElem?_map, List.getElem?_eq_getElem hi', Option.map_some, Option.getD_some]
    exact fits_lo8 _
end StrChars.Road
namespace StrChars.Road
open Jvm Sem ClassFile Op Lib Jvm.Stand Jvm.Free Jvm.Free.XT
/-- WHAT COMES BACK, in the writer's own shape -/
def QV (Z : State) (x : Addr) (N : Int32) (bs : List Int32) (h : Heap) (n0 : Nat) (v : Option Value) (h' : Heap) (L : List Loc) : Prop := v = none ∧ RoadKit.Fr n0 L ∧ RoadKit.Keep h h' [x] ∧ RoadKit.Exa Z h' x ST ∧ RoadKit.Fld Z h' x ST "coder" "B" (.int 0) ∧
  ∃ (t : Addr) (kb : ClassId), n0 ≤ t ∧ h.size ≤ t ∧ ¬ t = x ∧ RoadKit.Fld Z h' x ST "value" "[B" (.ref t) ∧ RoadKit.Arv Z h' t kb .byte N (bs.map Value.int) (.int 0)
/-- **new String(chars) AT A CALL, FOR THE WRITER**: a char[] of n known ints, each 0 to 255 -/
theorem backV {p : Program} {l : Launch} {e : Env} {R : Room} {s : State} {args : Array Value} {below : List Frame} {len W : Nat} {Z : State} {a0 : Array Value} {h : Heap} (hZ : Z.Warmed39 s.vm) (hw : ∀ d ∈ words, d.before a0 Z = true) {kI : Nat} (wi : (Jvm.Cond.instantiable ST kI).before a0 Z = true)
    {x b : Addr} {kC : ClassId} {cs bs : List Int32} {d v0 c0 : Value} {z N : Int32} {n n0 : Nat} (hx0 : n0 ≤ x) (hh0 : n0 ≤ h.size) (E : RoadKit.Exa Z h x ST) (V : RoadKit.Fld Z h x ST "value" "[B" v0) (C : RoadKit.Fld Z h x ST "coder" "B" c0) (K : RoadKit.Arv Z h b kC .char N (cs.map Value.int) d) (S : RoadKit.Sta Z h ST "COMPACT_STRINGS" "Z" (.int z)) (hz : ¬ z = 0)
    (hn : cs.length = n) (hN : N = Int32.ofNat n) (l0 : 0 < n) (l2 : n ≤ 4000) (hp : ∀ c ∈ cs, ¬ c < 0 ∧ ¬ (255 : Int32) < c) (hb : bs = cs.map (fun c => c.toInt8.toInt32)) (hfr : 4 ≤ R.frames) (hlo : W + 65 ≤ R.locals) :
    Back l R p e below s args (⟨"java/lang/String", "<init>", "([C)V"⟩ : MethodName) len W (fun P a => a = #[.ref x, .ref b] ∧ P.U.heap = h ∧ P.cells + 1 ≤ R.cells ∧ P.slots + n ≤ R.slots)
      (fun P _ v B => ∃ L, QV Z x N bs h n0 v B.U.heap L ∧ B.locs = P.locs ++ L ∧ B.cells = P.cells + 1 ∧ B.slots = P.slots + n) := by
  subst hn hN hb
  refine Back.mono (backArv hZ hw wi E V C K S hz (n32 (by omega)) l0 (by omega) (fun c hc => (hp c hc).2) hfr hlo) (fun P a hp => hp) (fun P a v B hp hq => ?_)
  obtain ⟨L, ⟨q1, q2, q3, q4, q5, q6, q7, ⟨kb, v1, v2⟩, q9⟩, hl, hc, hs⟩ := hq
  exact ⟨L, ⟨q1, fun y hy => by rw [q2 y hy]; exact hx0, q3, q5, q7, h.size, kb, hh0, Nat.le_refl _, Nat.ne_of_gt E.lt, q6, by rw [List.map_map]; exact v2⟩, hl, hc, hs⟩
end StrChars.Road
namespace StrChars
open Jvm Sem ClassFile Op Lib Jvm.Stand Jvm.Free.XT Jvm.Free.ALB Jvm.Free.JM Jvm.Free
open Jvm.Lib.Cold (StaticIs)
def hi8 (x : Int32) : Int32 := lo8 (x >>> ((8 : Int32) &&& 31))
/-- what StringUTF16.getChar makes of two bytes -/
def pairCh (u v : Int32) : Int32 := (((u &&& 255) <<< ((0 : Int32) &&& 31)) ||| ((v &&& 255) <<< ((8 : Int32) &&& 31))).toUInt32.toUInt16.toUInt32.toInt32
theorem shr0 (c : Int32) : c >>> ((0 : Int32) &&& 31) = c := by
  have e : ((0 : Int32) &&& 31) = 0 := by decide
  rw [e]
  apply Int32.toBitVec_inj.mp
  rw [Int32.toBitVec_shiftRight]
  have e1 : ((0 : Int32).toBitVec.smod 32) = 0#32 := by decide
  rw [e1, BitVec.sshiftRight_eq']
  exact BitVec.sshiftRight_zero
theorem lo8_and (x : Int32) : (lo8 x &&& 255).toBitVec.toNat = x.toBitVec.toNat % 256 := by
  have h : (lo8 x).toBitVec = (x.toBitVec.signExtend 8).signExtend 32 := by rw [lo8, Int8.toBitVec_toInt32, Int32.toBitVec_toInt8]
  rw [Int32.toBitVec_and, BitVec.toNat_and, h]
  have e : ((x.toBitVec.signExtend 8).signExtend 32).toNat % 256 = x.toBitVec.toNat % 256 := by
    rw [BitVec.toNat_signExtend]
    have hlt := x.toBitVec.isLt
    simp only [BitVec.toNat_setWidth, BitVec.toNat_signExtend]
    split <;> split <;> omega
  rw [← e]
  exact Nat.and_two_pow_sub_one_eq_mod _ 8
theorem pair_says {c : Int32} (h0 : ¬ c < 0) (h1 : ¬ 65535 < c) : pairCh (lo8 c) (hi8 c) = c := by
  rw [Int32.lt_iff_toInt_lt] at h0 h1
  have e0 : (0 : Int32).toInt = 0 := rfl
  have e1 : (65535 : Int32).toInt = 65535 := rfl
  have hc : c.toInt = c.toBitVec.toNat := by
    have := c.toBitVec.isLt
    have e : c.toInt = c.toBitVec.toInt := rfl
    rw [e] at h0 h1
    rw [e]
    rw [BitVec.toInt_eq_toNat_cond] at h0 h1 ⊢
    split at h0 <;> split <;> omega
  have hn : c.toBitVec.toNat < 65536 := by omega
  have a1 := lo8_and c
  have a2 : (hi8 c &&& 255).toBitVec.toNat = c.toBitVec.toNat / 256 := by
    rw [hi8, lo8_and]
    have e : ((8 : Int32) &&& 31) = 8 := by decide
    rw [e, Int32.toBitVec_shiftRight]
    have e2 : ((8 : Int32).toBitVec.smod 32) = 8#32 := by decide
    rw [e2, BitVec.sshiftRight_eq', BitVec.toNat_sshiftRight_of_msb_false (by rw [BitVec.msb_eq_false_iff_two_mul_lt]; omega)]
    show c.toBitVec.toNat >>> 8 % 256 = _
    rw [Nat.shiftRight_eq_div_pow]
    omega
  unfold pairCh
  apply Int32.toBitVec_inj.mp
  apply BitVec.eq_of_toNat_eq
  have f0 : ((0 : Int32) &&& 31) = 0 := by decide
  have f8 : ((8 : Int32) &&& 31) = 8 := by decide
  rw [f0, f8]
  have g : (((lo8 c &&& 255) <<< (0 : Int32)) ||| ((hi8 c &&& 255) <<< (8 : Int32))).toBitVec.toNat = c.toBitVec.toNat := by
    rw [Int32.toBitVec_or, Int32.toBitVec_shiftLeft, Int32.toBitVec_shiftLeft]
    have s0 : ((0 : Int32).toBitVec.smod 32) = 0#32 := by decide
    have s8 : ((8 : Int32).toBitVec.smod 32) = 8#32 := by decide
    rw [s0, s8, BitVec.toNat_or]
    simp only [BitVec.shiftLeft_eq', BitVec.toNat_shiftLeft, a1, a2]
    show (c.toBitVec.toNat % 256) <<< 0 % 2 ^ 32 ||| (c.toBitVec.toNat / 256) <<< 8 % 2 ^ 32 = _
    rw [Nat.shiftLeft_zero, Nat.mod_eq_of_lt (show c.toBitVec.toNat % 256 < 2 ^ 32 by omega), Nat.mod_eq_of_lt (show (c.toBitVec.toNat / 256) <<< 8 < 2 ^ 32 by rw [Nat.shiftLeft_eq]; omega), Nat.or_comm, ← Nat.shiftLeft_add_eq_or_of_lt (by omega), Nat.shiftLeft_eq]
    omega
  show BitVec.toNat (((((lo8 c &&& 255) <<< (0 : Int32)) ||| ((hi8 c &&& 255) <<< (8 : Int32))).toBitVec.setWidth 16).setWidth 32) = _
  rw [BitVec.toNat_setWidth, BitVec.toNat_setWidth, g]
  omega
end StrChars
namespace StrChars
open Jvm Sem ClassFile Op Lib Jvm.Stand Jvm.Free.XT Jvm.Free.ALB Jvm.Free.JM Jvm.Free
open Jvm.Lib.Cold (StaticIs)
theorem shr1 {n : Nat} (h : 2 * n < 2 ^ 31) : Int32.ofNat (2 * n) >>> ((1 : Int32) &&& 31) = Int32.ofNat n := by
  have e : ((1 : Int32) &&& 31) = 1 := by decide
  rw [e]
  apply Int32.toBitVec_inj.mp
  rw [Int32.toBitVec_shiftRight]
  have e1 : ((1 : Int32).toBitVec.smod 32) = 1#32 := by decide
  have hm : (BitVec.ofNat 32 (2 * n)).toNat = 2 * n := by rw [BitVec.toNat_ofNat, Nat.mod_eq_of_lt (by omega)]
  rw [e1, BitVec.sshiftRight_eq']
  apply BitVec.eq_of_toNat_eq
  show ((BitVec.ofNat 32 (2 * n)).sshiftRight 1).toNat = (BitVec.ofNat 32 n).toNat
  rw [BitVec.toNat_sshiftRight_of_msb_false (by rw [BitVec.msb_eq_false_iff_two_mul_lt, hm]; omega), hm, BitVec.toNat_ofNat, Nat.shiftRight_eq_div_pow]
  omega
/-- charAt's cast of a byte read back -/
def chr8 (u : Int32) : Int32 := (u &&& 255).toUInt32.toUInt16.toUInt32.toInt32
theorem chr8_lo8 {c : Int32} (h0 : ¬ c < 0) (h1 : ¬ 255 < c) : chr8 (lo8 c) = c := by
  have t : ∀ k : Fin 256, (Int32.ofNat k.val).toUInt32.toUInt16.toUInt32.toInt32 = Int32.ofNat k.val := by decide +kernel
  unfold chr8
  rw [lo8_mask h0 h1]
  rw [Int32.lt_iff_toInt_lt] at h0 h1
  have e0 : (0 : Int32).toInt = 0 := rfl
  have e1 : (255 : Int32).toInt = 255 := rfl
  obtain ⟨k, hk⟩ : ∃ k : Nat, c.toInt = k := ⟨c.toInt.toNat, by omega⟩
  have hx : c = Int32.ofNat k := Int32.toInt_inj.mp (by rw [hk, Int32.toInt_ofNat_small (by omega)])
  rw [hx]
  exact t ⟨k, by omega⟩
theorem narrow_ch {c : Int32} (h0 : ¬ c < 0) (h1 : ¬ 65535 < c) : narrow .char (.int c) = .int c := by
  have q : narrow .char (.int (pairCh (lo8 c) (hi8 c))) = .int (pairCh (lo8 c) (hi8 c)) := narrow_c _
  rwa [pair_says h0 h1] at q
/-- the array's cell V codes the n chars f 0 .. f (n - 1) by the coder cd, as the JDK does: coder 1 just where some char is above 255 -/
def Cod (cd : Int32) (n : Nat) (f : Nat → Int32) (V : Cell) : Prop := (cd = 0 ∧ V.slots.size = n ∧ ∀ j, j < n → V.slots[j]? = some (.int (lo8 (f j))) ∧ ¬ 255 < f j) ∨ (cd = 1 ∧ V.slots.size = 2 * n ∧ (∀ j, j < n → V.slots[2 * j]? = some (.int (lo8 (f j))) ∧ V.slots[2 * j + 1]? = some (.int (hi8 (f j)))) ∧ ∃ j, j < n ∧ 255 < f j)
theorem Cod.cd {cd : Int32} {n : Nat} {f : Nat → Int32} {V : Cell} (h : Cod cd n f V) : cd = 0 ∨ cd = 1 := h.imp (fun q => q.1) fun q => q.1
theorem Cod.len {cd : Int32} {n : Nat} {f : Nat → Int32} {V : Cell} (h : Cod cd n f V) (hs : V.slots.size < 2 ^ 31) : Int32.ofNat V.slots.size >>> (cd &&& 31) = Int32.ofNat n := by
  rcases h with ⟨rfl, h, -⟩ | ⟨rfl, h, -⟩
  · rw [shr0, h]
  · rw [h, shr1 (by omega)]
/-- **x is a String of the n chars f 0 .. f (n - 1)**, Latin-1 or UTF-16; its array at t has the cell V -/
def Txt (x t : Addr) (V : Cell) (cd : Int32) (n : Nat) (f : Nat → Int32) (U : State) : Prop := Exact "java/lang/String" x U ∧ Has x "java/lang/String" "value" "[B" (.ref t) U ∧ Has x "java/lang/String" "coder" "B" (.int cd) U ∧ XT.Arr .byte t V U ∧ Cod cd n f V ∧ ∀ j, j < n → ¬ f j < 0 ∧ ¬ 65535 < f j
theorem Txt.mv {x t : Addr} {V : Cell} {cd : Int32} {n : Nat} {f : Nat → Int32} {U U' : State} (h : Txt x t V cd n f U) (hal : U.vm.Alike U'.vm) (hh : U'.heap = U.heap) : Txt x t V cd n f U' := ⟨h.1.mv hal hh, h.2.1.mv hal hh, h.2.2.1.mv hal hh, h.2.2.2.1.mv hal hh, h.2.2.2.2⟩
namespace Cdr
def yN : MethodName := ⟨"java/lang/String", "coder", "()B"⟩
abbrev yB : ByteArray := jdk_42_method_152_code
theorem d0 : decode yB 0 = .ok (.getstatic 38, 3) := by decide +kernel
theorem d3 : decode yB 3 = .ok (.ifCond (.eq) 10, 3) := by decide +kernel
theorem d6 : decode yB 6 = .ok (.aload_n 0, 1) := by decide +kernel
theorem d7 : decode yB 7 = .ok (.getfield 15, 3) := by decide +kernel
theorem d10 : decode yB 10 = .ok (.goto 4, 3) := by decide +kernel
theorem d14 : decode yB 14 = .ok (.ireturn, 1) := by decide +kernel
def site : List Cond := [.fieldLink "java/lang/String" 38 "java/lang/String" "COMPACT_STRINGS" "Z", .fieldLink "java/lang/String" 15 "java/lang/String" "coder" "B"]
def tab : Cond := tabOf yN yB 1 (some .byte) site
def P (x : Addr) (cd z : Int32) (args : Array Value) (s : State) : Prop := args = #[.ref x] ∧ Has x "java/lang/String" "coder" "B" (.int cd) s ∧ (cd = 0 ∨ cd = 1) ∧ StaticIs s "java/lang/String" "COMPACT_STRINGS" "Z" (.int z) ∧ ¬ z = 0
def E (cd : Int32) (r : Option Value) (s u : State) : Prop := XT.PureE (some (.int cd)) r s u
theorem law (l : Launch) (x : Addr) (cd z : Int32) : Law l yN 1 0 0 0 yB 1 (some .byte) site (P x cd z) (E cd) [] 0 0 := by
  refine Law.of_walk (plainFor_of_name (by decide +kernel)) (by decide +kernel) (by decide +kernel) (by decide) (fun _ _ h => by rw [h.1]; rfl) (fun _ U U' hal hh h => ⟨h.1, h.2.1.mv hal hh, h.2.2.1, h.2.2.2.1.there hal hh, h.2.2.2.2⟩) (fun r U U' V V' h1 hal h2 h => XT.PureE.mv r U U' V V' h1 hal h2 h) ?_
  intro p e s m args below meth c s₁ X0 hexec hbytes hml hret hlk hnm hown hh0 W hP
  obtain ⟨rfl, hx, hc, s1, hz⟩ := hP
  have c1 : Steps p.tables e below (s₁.setTop (entryFrame m #[.ref x] 1)) (s₁.setTop (mkF m 0 #[.val (.ref x)] [])) := entry rfl
  obtain ⟨T2, X2, q2, st2⟩ := X0.sget hexec hown (wk W (.fieldLink "java/lang/String" 38 "java/lang/String" "COMPACT_STRINGS" "Z")) s1 (fun _ _ h => by rw [hh0]; exact h) (g := (mkF m 0 #[.val (.ref x)] [])) rfl (hb hbytes d0)
  have hh2 := q2.trans hh0
  have c3 : Steps p.tables e below (s₁.setTop (entryFrame m #[.ref x] 1)) (T2.setTop (mkF m 7 #[.val (.ref x)] [.ref x])) := (c1.trans (st2 _ (Steps.refl _))).trans (by
    refine XS.ifNo X2.here hexec rfl (hb hbytes d3) rfl (i0_eq_f hz) ?_
    refine XS.aloadN X2.here hexec rfl (hb hbytes d6) rfl rfl ?_
    exact Steps.refl _)
  obtain ⟨T4, X4, q4, st4⟩ := X2.hget hexec hown (wk W (.fieldLink "java/lang/String" 15 "java/lang/String" "coder" "B")) (hx.mv X2.warmed.alike hh2) (g := (mkF m 7 #[.val (.ref x)] [.ref x])) rfl (rest := []) rfl (hb hbytes d7)
  have c5 : Steps p.tables e below (s₁.setTop (entryFrame m #[.ref x] 1)) (T4.setTop (mkF m 14 #[.val (.ref x)] [.int cd])) := (c3.trans (st4 _ (Steps.refl _))).trans (by
    refine XS.goto X4.here hexec rfl (pc0 := 10) rfl (hb hbytes d10) (by decide) rfl ?_
    exact Steps.refl _)
  exact ⟨T4, some (.int cd), _, _, _, X4, rfl, rfl, rfl, (fun h => by cases h), ⟨rfl, q4.trans hh2⟩, fun fs hl => c5.trans (X4.ireturnOut hexec hret (by rcases hc with rfl | rfl <;> rfl) (Or.inr (Or.inr (Or.inl rfl))) (hb hbytes d14) hl)⟩
end Cdr
namespace Len
def yN : MethodName := ⟨"java/lang/String", "length", "()I"⟩
abbrev yB : ByteArray := jdk_42_method_54_code
theorem d0 : decode yB 0 = .ok (.aload_n 0, 1) := by decide +kernel
theorem d1 : decode yB 1 = .ok (.getfield 9, 3) := by decide +kernel
theorem d4 : decode yB 4 = .ok (.arraylength, 1) := by decide +kernel
theorem d5 : decode yB 5 = .ok (.aload_n 0, 1) := by decide +kernel
theorem d6 : decode yB 6 = .ok (.invokevirtual 335, 3) := by decide +kernel
theorem d9 : decode yB 9 = .ok (.ishr, 1) := by decide +kernel
theorem d10 : decode yB 10 = .ok (.ireturn, 1) := by decide +kernel
def site : List Cond := [.fieldLink "java/lang/String" 9 "java/lang/String" "value" "[B", Cdr.tab] ++ virtW "java/lang/String" 335 "java/lang/String" Cdr.yN Cdr.yN
def tab : Cond := tabOf yN yB 1 (some .int) site
def P (x t : Addr) (V : Cell) (cd : Int32) (n : Nat) (f : Nat → Int32) (z : Int32) (args : Array Value) (s : State) : Prop := args = #[.ref x] ∧ Txt x t V cd n f s ∧ StaticIs s "java/lang/String" "COMPACT_STRINGS" "Z" (.int z) ∧ ¬ z = 0
def E (n : Nat) (r : Option Value) (s u : State) : Prop := XT.PureE (some (.int (Int32.ofNat n))) r s u
/-- length() of a String of n chars, in either coding -/
theorem law (l : Launch) (x t : Addr) (V : Cell) (cd : Int32) (n : Nat) (f : Nat → Int32) (z : Int32) : Law l yN 1 0 1 13 yB 1 (some .int) site (P x t V cd n f z) (E n) [] 0 0 := by
  refine Law.of_walk (plainFor_of_name (by decide +kernel)) (by decide +kernel) (by decide +kernel) (by decide) (fun _ _ h => by rw [h.1]; rfl) (fun _ U U' hal hh h => ⟨h.1, h.2.1.mv hal hh, h.2.2.1.there hal hh, h.2.2.2⟩) (fun r U U' V V' h1 hal h2 h => XT.PureE.mv r U U' V V' h1 hal h2 h) ?_
  intro p e s m args below meth c s₁ X0 hexec hbytes hml hret hlk hnm hown hh0 W hP
  obtain ⟨rfl, hx, s1, hz⟩ := hP
  have v31 := hx.2.2.2.1.2.2.2
  have c1 : Steps p.tables e below (s₁.setTop (entryFrame m #[.ref x] 1)) (s₁.setTop (mkF m 1 #[.val (.ref x)] [.ref x])) := Steps.trans (entry rfl) (by
    show Steps p.tables e below (s₁.setTop (mkF m 0 #[.val (.ref x)] [])) _
    refine XS.aloadN X0.here hexec rfl (hb hbytes d0) rfl rfl ?_
    exact Steps.refl _)
  obtain ⟨T2, X2, q2, st2⟩ := X0.hget hexec hown (wk W (.fieldLink "java/lang/String" 9 "java/lang/String" "value" "[B")) (hx.mv X0.warmed.alike hh0).2.1 (g := (mkF m 1 #[.val (.ref x)] [.ref x])) rfl (rest := []) rfl (hb hbytes d1)
  have hh2 := q2.trans hh0
  have hx2 := hx.mv X2.warmed.alike hh2
  have c3 : Steps p.tables e below (s₁.setTop (entryFrame m #[.ref x] 1)) (T2.setTop (mkF m 6 #[.val (.ref x)] [.ref x, .int (Int32.ofNat V.slots.size)])) := (c1.trans (st2 _ (Steps.refl _))).trans (by
    refine X2.alen hexec hx2.2.2.2.1 rfl rfl (hb hbytes d4) ?_
    refine XS.aloadN X2.here hexec rfl (hb hbytes d5) rfl rfl ?_
    exact Steps.refl _)
  obtain ⟨v4, T4, X4, E4, g4⟩ := X2.callV hexec (Cdr.law l x cd z) hown (wks W (virtW "java/lang/String" 335 "java/lang/String" Cdr.yN Cdr.yN)) rfl (by decide) (wk W Cdr.tab) (W := 1) (Nat.le_of_ble_eq_true rfl) (Nat.le_of_ble_eq_true rfl) (Nat.le_refl _) (Nat.le_refl _) (hx2.1.fc X2.warmed.alike) hx2.1.is (g := (mkF m 6 #[.val (.ref x)] [.ref x, .int (Int32.ofNat V.slots.size)])) rfl (by rw [hml]; rfl) c3 (argsL := []) (rest := [.int (Int32.ofNat V.slots.size)]) rfl rfl (by show 2 * 0 + (1 + 0) ≤ _; decide) (hb hbytes d6) (⟨rfl, hx2.2.2.1, hx.2.2.2.2.1.cd, s1.there X2.warmed.alike hh2, hz⟩)
  obtain ⟨rfl, q4⟩ := E4
  have c5 : Steps p.tables e below (s₁.setTop (entryFrame m #[.ref x] 1)) (T4.setTop (mkF m 10 #[.val (.ref x)] [.int (Int32.ofNat V.slots.size >>> (cd &&& 31))])) := Steps.trans g4 (by
    refine ishr X4.here hexec rfl (hb hbytes d9) rfl ?_
    exact Steps.refl _)
  rw [hx.2.2.2.2.1.len v31] at c5
  exact ⟨T4, some (.int (Int32.ofNat n)), _, _, _, X4, rfl, rfl, rfl, (fun h => by cases h), ⟨rfl, q4.trans hh2⟩, fun fs hl => c5.trans (X4.ireturnOut hexec hret rfl (Or.inl rfl) (hb hbytes d10) hl)⟩
theorem pays {l : Launch} {R : Room} {p : Program} {e : Env} {below : List Frame} {s : State} {sargs : Array Value} {len W : Nat} (x t : Addr) (V : Cell) (cd : Int32) (n : Nat) (f : Nat → Int32) (z : Int32) (htab : tab.before sargs s = true) (hfr : 2 ≤ R.frames) (hlo : W + 25 ≤ R.locals) :
    Back l R p e below s sargs yN len W (fun A₁ a₁ => A₁.cells + 0 ≤ R.cells ∧ A₁.slots + 0 ≤ R.slots ∧ P x t V cd n f z a₁ A₁.U) (fun A₁ _ v₁ B₁ => E n v₁ A₁.U B₁.U ∧ B₁.locs = A₁.locs ++ [] ∧ B₁.cells = A₁.cells + 0 ∧ B₁.slots = A₁.slots + 0) :=
  (law l x t V cd n f z).pays htab hfr (by omega)
end Len
namespace IsL
def yN : MethodName := ⟨"java/lang/String", "isLatin1", "()Z"⟩
abbrev yB : ByteArray := jdk_42_method_154_code
theorem d0 : decode yB 0 = .ok (.getstatic 38, 3) := by decide +kernel
theorem d3 : decode yB 3 = .ok (.ifCond (.eq) 14, 3) := by decide +kernel
theorem d6 : decode yB 6 = .ok (.aload_n 0, 1) := by decide +kernel
theorem d7 : decode yB 7 = .ok (.getfield 15, 3) := by decide +kernel
theorem d10 : decode yB 10 = .ok (.ifCond (.ne) 7, 3) := by decide +kernel
theorem d13 : decode yB 13 = .ok (.iconst 1, 1) := by decide +kernel
theorem d14 : decode yB 14 = .ok (.goto 4, 3) := by decide +kernel
theorem d17 : decode yB 17 = .ok (.iconst 0, 1) := by decide +kernel
theorem d18 : decode yB 18 = .ok (.ireturn, 1) := by decide +kernel
def site : List Cond := [.fieldLink "java/lang/String" 38 "java/lang/String" "COMPACT_STRINGS" "Z", .fieldLink "java/lang/String" 15 "java/lang/String" "coder" "B"]
def tab : Cond := tabOf yN yB 1 (some .boolean) site
def P (x : Addr) (cd z : Int32) (args : Array Value) (s : State) : Prop := args = #[.ref x] ∧ Has x "java/lang/String" "coder" "B" (.int cd) s ∧ (cd = 0 ∨ cd = 1) ∧ StaticIs s "java/lang/String" "COMPACT_STRINGS" "Z" (.int z) ∧ ¬ z = 0
def E (cd : Int32) (r : Option Value) (s u : State) : Prop := XT.PureE (some (.int (1 - cd))) r s u
theorem law (l : Launch) (x : Addr) (cd z : Int32) : Law l yN 1 0 0 0 yB 1 (some .boolean) site (P x cd z) (E cd) [] 0 0 := by
  refine Law.of_walk (plainFor_of_name (by decide +kernel)) (by decide +kernel) (by decide +kernel) (by decide) (fun _ _ h => by rw [h.1]; rfl) (fun _ U U' hal hh h => ⟨h.1, h.2.1.mv hal hh, h.2.2.1, h.2.2.2.1.there hal hh, h.2.2.2.2⟩) (fun r U U' V V' h1 hal h2 h => XT.PureE.mv r U U' V V' h1 hal h2 h) ?_
  intro p e s m args below meth c s₁ X0 hexec hbytes hml hret hlk hnm hown hh0 W hP
  obtain ⟨rfl, hx, hc, s1, hz⟩ := hP
  have c1 : Steps p.tables e below (s₁.setTop (entryFrame m #[.ref x] 1)) (s₁.setTop (mkF m 0 #[.val (.ref x)] [])) := entry rfl
  obtain ⟨T2, X2, q2, st2⟩ := X0.sget hexec hown (wk W (.fieldLink "java/lang/String" 38 "java/lang/String" "COMPACT_STRINGS" "Z")) s1 (fun _ _ h => by rw [hh0]; exact h) (g := (mkF m 0 #[.val (.ref x)] [])) rfl (hb hbytes d0)
  have hh2 := q2.trans hh0
  have c3 : Steps p.tables e below (s₁.setTop (entryFrame m #[.ref x] 1)) (T2.setTop (mkF m 7 #[.val (.ref x)] [.ref x])) := (c1.trans (st2 _ (Steps.refl _))).trans (by
    refine XS.ifNo X2.here hexec rfl (hb hbytes d3) rfl (i0_eq_f hz) ?_
    refine XS.aloadN X2.here hexec rfl (hb hbytes d6) rfl rfl ?_
    exact Steps.refl _)
  obtain ⟨T4, X4, q4, st4⟩ := X2.hget hexec hown (wk W (.fieldLink "java/lang/String" 15 "java/lang/String" "coder" "B")) (hx.mv X2.warmed.alike hh2) (g := (mkF m 7 #[.val (.ref x)] [.ref x])) rfl (rest := []) rfl (hb hbytes d7)
  have c5 : Steps p.tables e below (s₁.setTop (entryFrame m #[.ref x] 1)) (T4.setTop (mkF m 10 #[.val (.ref x)] [.int cd])) := c3.trans (st4 _ (Steps.refl _))
  have c6 : Steps p.tables e below (s₁.setTop (entryFrame m #[.ref x] 1)) (T4.setTop (mkF m 18 #[.val (.ref x)] [.int (1 - cd)])) := by
    rcases hc with rfl | rfl
    · exact c5.trans (by
        refine XS.ifNo X4.here hexec rfl (hb hbytes d10) rfl (i0_ne_f rfl) ?_
        refine iconstV X4.here hexec rfl 1 (hb hbytes d13) (by decide) ?_
        refine XS.goto X4.here hexec rfl (pc0 := 14) rfl (hb hbytes d14) (by decide) rfl ?_
        exact Steps.refl _)
    · exact c5.trans (by
        refine XS.ifYes X4.here hexec rfl (pc0 := 10) rfl (hb hbytes d10) rfl (i0_ne_t (by decide)) (by decide) rfl ?_
        refine iconstV X4.here hexec rfl 0 (hb hbytes d17) (by decide) ?_
        exact Steps.refl _)
  exact ⟨T4, some (.int (1 - cd)), _, _, _, X4, rfl, rfl, rfl, (fun h => by cases h), ⟨rfl, q4.trans hh2⟩, fun fs hl => c6.trans (X4.ireturnOut hexec hret (by rcases hc with rfl | rfl <;> rfl) (Or.inr (Or.inl rfl)) (hb hbytes d18) hl)⟩
end IsL
namespace LChA
def yN : MethodName := ⟨"java/lang/StringLatin1", "charAt", "([BI)C"⟩
abbrev yB : ByteArray := jdk_43_method_2_code
theorem d0 : decode yB 0 = .ok (.iload_n 1, 1) := by decide +kernel
theorem d1 : decode yB 1 = .ok (.aload_n 0, 1) := by decide +kernel
theorem d2 : decode yB 2 = .ok (.arraylength, 1) := by decide +kernel
theorem d3 : decode yB 3 = .ok (.invokestatic 9, 3) := by decide +kernel
theorem d6 : decode yB 6 = .ok (.aload_n 0, 1) := by decide +kernel
theorem d7 : decode yB 7 = .ok (.iload_n 1, 1) := by decide +kernel
theorem d8 : decode yB 8 = .ok (.baload, 1) := by decide +kernel
theorem d9 : decode yB 9 = .ok (.sipush 255, 3) := by decide +kernel
theorem d12 : decode yB 12 = .ok (.iand, 1) := by decide +kernel
theorem d13 : decode yB 13 = .ok (.i2c, 1) := by decide +kernel
theorem d14 : decode yB 14 = .ok (.ireturn, 1) := by decide +kernel
def site : List Cond := [JO.Str_checkIndex.tab] ++ staticW "java/lang/StringLatin1" 9 JO.Str_checkIndex.yN
def tab : Cond := tabOf yN yB 2 (some .char) site
def P (t : Addr) (V : Cell) (i : Nat) (u : Int32) (fm : Value) (args : Array Value) (s : State) : Prop := args = #[.ref t, .int (Int32.ofNat i)] ∧ XT.Arr .byte t V s ∧ V.slots[i]? = some (.int u) ∧ (StaticIs s "jdk/internal/util/Preconditions" "SIOOBE_FORMATTER" "Ljava/util/function/BiFunction;" fm ∧ fm.isRef = true)
def E (u : Int32) (r : Option Value) (s w : State) : Prop := XT.PureE (some (.int (chr8 u))) r s w
theorem law (l : Launch) (t : Addr) (V : Cell) (i : Nat) (u : Int32) (fm : Value) : Law l yN 2 2 2 27 yB 2 (some .char) site (P t V i u fm) (E u) [] 0 0 := by
  refine Law.of_walk (plainFor_of_name (by decide +kernel)) (by decide +kernel) (by decide +kernel) (by decide) (fun _ _ h => by rw [h.1]; rfl) (fun _ U U' hal hh h => ⟨h.1, h.2.1.mv hal hh, h.2.2.1, h.2.2.2.1.there hal hh, h.2.2.2.2⟩) (fun r U U' V V' h1 hal h2 h => XT.PureE.mv r U U' V V' h1 hal h2 h) ?_
  intro p e s m args below meth c s₁ X0 hexec hbytes hml hret hlk hnm hown hh0 W hP
  obtain ⟨rfl, hV, hu, s1, rf⟩ := hP
  have v31 := hV.2.2.2
  have hi : i < V.slots.size := (Array.getElem?_eq_some_iff.mp hu).1
  have c1 : Steps p.tables e below (s₁.setTop (entryFrame m #[.ref t, .int (Int32.ofNat i)] 2)) (s₁.setTop (mkF m 0 #[.val (.ref t), .val (.int (Int32.ofNat i))] [])) := entry rfl
  have c2 : Steps p.tables e below (s₁.setTop (entryFrame m #[.ref t, .int (Int32.ofNat i)] 2)) (s₁.setTop (mkF m 3 #[.val (.ref t), .val (.int (Int32.ofNat i))] [.int (Int32.ofNat V.slots.size), .int (Int32.ofNat i)])) := c1.trans (by
    refine XS.iloadN X0.here hexec rfl (hb hbytes d0) rfl ?_
    refine XS.aloadN X0.here hexec rfl (hb hbytes d1) rfl rfl ?_
    refine X0.alen hexec (hV.mv X0.warmed.alike hh0) rfl rfl (hb hbytes d2) ?_
    exact Steps.refl _)
  obtain ⟨v3, T3, X3, E3, g3⟩ := X0.callS hexec (JO.Str_checkIndex.law l (Int32.ofNat i) (Int32.ofNat V.slots.size) fm) hown (wks W (staticW "java/lang/StringLatin1" 9 JO.Str_checkIndex.yN)) (wk W JO.Str_checkIndex.tab) (W := 0) (Nat.le_of_ble_eq_true rfl) (Nat.le_of_ble_eq_true rfl) (Nat.le_refl _) (Nat.le_refl _) (g := (mkF m 3 #[.val (.ref t), .val (.int (Int32.ofNat i))] [.int (Int32.ofNat V.slots.size), .int (Int32.ofNat i)])) rfl (by rw [hml]; rfl) c2 (argsL := [.int (Int32.ofNat i), .int (Int32.ofNat V.slots.size)]) (rest := []) rfl rfl (by show 2 * 0 + 0 ≤ _; decide) (hb hbytes d3) (⟨rfl, rf, s1.there X0.warmed.alike hh0, Int32.ofNat_not_neg (by omega), lt32 v31 hi⟩)
  obtain ⟨rfl, q3⟩ := E3
  have hh3 := q3.trans hh0
  have c4 : Steps p.tables e below (s₁.setTop (entryFrame m #[.ref t, .int (Int32.ofNat i)] 2)) (T3.setTop (mkF m 14 #[.val (.ref t), .val (.int (Int32.ofNat i))] [.int (chr8 u)])) := Steps.trans g3 (by
    refine XS.aloadN X3.here hexec rfl (hb hbytes d6) rfl rfl ?_
    refine XS.iloadN X3.here hexec rfl (hb hbytes d7) rfl ?_
    refine X3.aget hexec (hV.mv X3.warmed.alike hh3) rfl hu rfl rfl (hb hbytes d8) ?_
    refine sipushV X3.here hexec rfl 255 (hb hbytes d9) (by decide) ?_
    refine XS.iand X3.here hexec rfl (hb hbytes d12) rfl ?_
    refine i2c X3.here hexec rfl (hb hbytes d13) rfl ?_
    exact Steps.refl _)
  exact ⟨T3, some (.int (chr8 u)), _, _, _, X3, rfl, rfl, rfl, (fun h => by cases h), ⟨rfl, hh3⟩, fun fs hl => c4.trans (X3.ireturnOut hexec hret (narrow_c _) (Or.inr (Or.inr (Or.inr (Or.inl rfl)))) (hb hbytes d14) hl)⟩
end LChA
end StrChars
namespace StrChars.Road
open Jvm Sem ClassFile Op Lib Jvm.Stand Jvm.Free Jvm.Free.XT
open Jvm.Lib.Cold (StaticIs)
theorem consq {a : Array Value} {s : State} {c : Jvm.Cond} {L : List Jvm.Cond} (h0 : c.before a s = true) (h : ∀ w ∈ L, w.before a s = true) : ∀ w ∈ c :: L, w.before a s = true := fun w hw => (List.mem_cons.mp hw).elim (fun e => e ▸ h0) (h w)
/-- the words of String.length(), either coding -/
abbrev wordsLen : List Jvm.Cond := [.code Len.yN Len.yB 1 (some .int), .initialized ST, .fieldLink ST 9 ST "value" "[B", .fieldLink ST 38 ST "COMPACT_STRINGS" "Z", .fieldLink ST 15 ST "coder" "B", .code Cdr.yN Cdr.yB 1 (some .byte), .methodLink ST 335 Cdr.yN, .declares Cdr.yN, .selects ST Cdr.yN Cdr.yN, .instanceMethod Cdr.yN]
theorem tabLen_of {a : Array Value} {s : State} (h : ∀ w ∈ wordsLen, w.before a s = true) : Len.tab.before a s = true := by
  have hc : Cdr.tab.before a s = true := unparts (wk h (.code Cdr.yN Cdr.yB 1 (some .byte))) (wks h (.initialized Cdr.yN.cls :: Cdr.site))
  have q := consq hc h
  exact unparts (wk q (.code Len.yN Len.yB 1 (some .int))) (wks q (.initialized Len.yN.cls :: Len.site))
theorem movedLen {Z s : State} {a0 args : Array Value} (hZ : Z.Warmed39 s.vm) (hw : ∀ d ∈ wordsLen, d.before a0 Z = true) : ∀ d ∈ wordsLen, d.before args s = true := fun d hd => by
  have q := hw d hd
  have t : ∀ d ∈ wordsLen, d = .arrayClass .byte ∨ (d.onTables && d.keepsFace) = true := by decide +kernel
  rcases t d hd with rfl | t
  · exact RoadKit.mvA hZ q
  · exact RoadKit.mv hZ q t
/-- the bytes of the chars cs, low before high -/
def wideBytes : List Int32 → List Value
  | [] => []
  | c :: cs => .int (lo8 c) :: .int (hi8 c) :: wideBytes cs
theorem wide_lo (d : Value) : ∀ (cs : List Int32) (j : Nat), j < cs.length → (wideBytes cs).getD (2 * j) d = .int (lo8 (cs.getD j 0))
  | [], j, h => absurd h (Nat.not_lt_zero j)
  | c :: cs, 0, _ => rfl
  | c :: cs, j + 1, h => by
    have q := wide_lo d cs j (by simpa using h)
    rw [show 2 * (j + 1) = 2 * j + 1 + 1 from by omega]
    simpa [wideBytes] using q
theorem wide_hi (d : Value) : ∀ (cs : List Int32) (j : Nat), j < cs.length → (wideBytes cs).getD (2 * j + 1) d = .int (hi8 (cs.getD j 0))
  | [], j, h => absurd h (Nat.not_lt_zero j)
  | c :: cs, 0, _ => rfl
  | c :: cs, j + 1, h => by
    have q := wide_hi d cs j (by simpa using h)
    rw [show 2 * (j + 1) + 1 = 2 * j + 1 + 1 + 1 from by omega]
    simpa [wideBytes] using q
theorem low_at (d : Value) (cs : List Int32) (j : Nat) (h : j < cs.length) : (cs.map fun c => Value.int (lo8 c)).getD j d = .int (lo8 (cs.getD j 0)) := by
  simp [List.getD_eq_getElem?_getD, h]
/-- an array of N2 bytes vs codes the chars cs by the coder cd -/
def CodA (cs : List Int32) (cd N2 : Int32) (vs : List Value) : Prop := (cd = 0 ∧ N2 = Int32.ofNat cs.length ∧ vs = (cs.map fun c => Value.int (lo8 c)) ∧ ∀ c ∈ cs, ¬ 255 < c) ∨ (cd = 1 ∧ N2 = Int32.ofNat (2 * cs.length) ∧ vs = wideBytes cs ∧ ∃ c ∈ cs, 255 < c)
theorem CodA.cod {cs : List Int32} {cd N2 : Int32} {vs : List Value} {V : Cell} (h : CodA cs cd N2 vs) (hn : 2 * cs.length < 2 ^ 31) (hs : V.slots.size = N2.toNatClampNeg) (hv : RoadKit.Has V vs (.int 0)) : Cod cd cs.length (fun j => cs.getD j 0) V := by
  rcases h with ⟨rfl, rfl, rfl, h⟩ | ⟨rfl, rfl, rfl, c, hc, hw⟩
  · rw [n32 (by omega)] at hs
    exact Or.inl ⟨rfl, hs, fun j hj => ⟨by rw [hv j (by omega), low_at _ _ _ hj], by
      have e : cs.getD j 0 = cs[j] := by simp [List.getD_eq_getElem?_getD, hj]
      show ¬ 255 < cs.getD j 0
      rw [e]; exact h _ (List.getElem_mem _)⟩⟩
  · rw [n32 (by omega)] at hs
    obtain ⟨j, hj, rfl⟩ := List.getElem_of_mem hc
    exact Or.inr ⟨rfl, hs, fun j hj => ⟨by rw [hv _ (by omega), wide_lo _ _ _ hj], by rw [hv _ (by omega), wide_hi _ _ _ hj]⟩, j, hj, by
      have e : cs.getD j 0 = cs[j] := by simp [List.getD_eq_getElem?_getD, hj]
      show 255 < cs.getD j 0
      rw [e]; exact hw⟩
/-- an object of exactly java/lang/String, its two fields found: as the laws ask it -/
theorem strObj {Z U : State} {a0 : Array Value} {kI : Nat} (wi : (Jvm.Cond.instantiable ST kI).before a0 Z = true) (al : Z.vm.Alike U.vm) {x : Addr} {v0 c0 : Value} (E : RoadKit.Exa Z U.heap x ST) (V : RoadKit.Fld Z U.heap x ST "value" "[B" v0) (C : RoadKit.Fld Z U.heap x ST "coder" "B" c0) :
    ∃ (D : Cell) (fV fC : Field), Blank ST x D U ∧ Found ST "value" "[B" fV U ∧ Found ST "coder" "B" fC U ∧ D.slots[fV.slot]? = some v0 ∧ D.slots[fC.slot]? = some c0 ∧ RoadKit.slotOf Z ST "value" "[B" = fV.slot ∧ RoadKit.slotOf Z ST "coder" "B" = fC.slot := by
  obtain ⟨D, cfV, kV, iV, fV, hD, gV, stV, knV, obV, asV, slV⟩ := V
  obtain ⟨D', cfC, kC, iC, fC, hD', gC, stC, -, -, asC, slC⟩ := C
  cases hD.symm.trans hD'
  obtain ⟨D2, kD, e1, e2, e3, e4, e5⟩ := E
  cases hD.symm.trans e1
  obtain ⟨c2, k2, i1, i2, i3, -⟩ := Cond.instantiable_spec wi
  cases e2.symm.trans i1
  cases e3.symm.trans i2
  obtain ⟨kU, u1, u2⟩ := al.2.2 _ _ e3
  exact ⟨D, fV, fC, ⟨hD, ⟨knV, fun q hq => by rw [hq] at obV; cases obV⟩, by rw [al.findClass]; exact e2, kU, u1, by rw [u2]; exact i3, by rw [u2]; exact e5 i3⟩, ⟨SBG.found_only al ⟨cfV, kV, iV, gV⟩, stV⟩, ⟨SBG.found_only al ⟨cfC, kC, iC, gC⟩, stC⟩, slV, slC, by simp [RoadKit.slotOf, gV], by simp [RoadKit.slotOf, gC]⟩
theorem sta_is {Z U : State} (al : Z.vm.Alike U.vm) {C n d : String} {v : Value} (S : RoadKit.Sta Z U.heap C n d v) : StaticIs U C n d v := by
  obtain ⟨cfS, iS, kS, fS, st, cS, t1, t2, t3, t4, t5, t6, t7⟩ := S
  exact StaticIs.there (s := { Z with heap := U.heap }) ⟨cfS, iS, kS, fS, st, cS, t1, t2, t3, t4, t5, (fun q => by rw [q] at t6; cases t6), t7⟩ al rfl
/-- **length() OF SUCH A STRING** -/
theorem lenW {p : Program} {l : Launch} {e : Env} {R : Room} {s : State} {args : Array Value} {below : List Frame} {len W : Nat} {Z : State} {a0 : Array Value} {h : Heap} (hZ : Z.Warmed39 s.vm) (hw : ∀ d ∈ wordsLen, d.before a0 Z = true) {kI : Nat} (wi : (Jvm.Cond.instantiable ST kI).before a0 Z = true)
    {x t : Addr} {kb : ClassId} {cs : List Int32} {cd N2 z : Int32} {vs : List Value} (E : RoadKit.Exa Z h x ST) (V : RoadKit.Fld Z h x ST "value" "[B" (.ref t)) (C : RoadKit.Fld Z h x ST "coder" "B" (.int cd)) (K : RoadKit.Arv Z h t kb .byte N2 vs (.int 0)) (hc : CodA cs cd N2 vs) (hb : ∀ c ∈ cs, ¬ c < 0 ∧ ¬ (65535 : Int32) < c)
    (S : RoadKit.Sta Z h ST "COMPACT_STRINGS" "Z" (.int z)) (hz : ¬ z = 0) (l2 : cs.length ≤ 4000) (hfr : 2 ≤ R.frames) (hlo : W + 25 ≤ R.locals) :
    Back l R p e below s args (⟨"java/lang/String", "length", "()I"⟩ : MethodName) len W (fun P a => a = #[.ref x] ∧ P.U.heap = h ∧ P.cells + 0 ≤ R.cells ∧ P.slots + 0 ≤ R.slots)
      (fun P _ v B => ∃ L, (v = some (.int (Int32.ofNat cs.length)) ∧ L = [] ∧ B.U.heap = h) ∧ B.locs = P.locs ++ L ∧ B.cells = P.cells + 0 ∧ B.slots = P.slots + 0) := by
  obtain ⟨A, K1, K2, K3, K4, K5, K6⟩ := K
  have hcod := hc.cod (by omega) K3 K5
  intro m meth c P g ig mk a X hg hsize hdg hW hn hp'
  obtain ⟨rfl, rfl, r1, r2⟩ := hp'
  have al : Z.vm.Alike P.U.vm := hZ.alike.trans X.warmed.alike
  obtain ⟨D, fV, fC, hB, F1, F2, g1, g2, -, -⟩ := strObj wi al E V C
  have hx : Txt x t A cd cs.length (fun j => cs.getD j 0) P.U := ⟨⟨_, hB.2.2.1, D, hB.1, rfl, by cases q : D.vm <;> first | rfl | exact absurd q (hB.2.1.2 _)⟩, Has.of hB F1 g1, Has.of hB F2 g2, ⟨K1.1, State.isArrayOf_alike al K1.2.1, K1.2.2, by rcases hcod with ⟨-, q, -⟩ | ⟨-, q, -⟩ <;> omega⟩, hcod, fun j hj => by
    have e : cs.getD j 0 = cs[j] := by simp [List.getD_eq_getElem?_getD, hj]
    show ¬ cs.getD j 0 < 0 ∧ ¬ 65535 < cs.getD j 0
    rw [e]; exact hb _ (List.getElem_mem _)⟩
  obtain ⟨v, B, X', ⟨⟨hv, hh⟩, hl, hk, hs⟩, st⟩ := Len.pays x t A cd cs.length (fun j => cs.getD j 0) z (tabLen_of (movedLen hZ hw)) hfr hlo m meth c P g ig mk _ X hg hsize hdg hW hn ⟨r1, r2, rfl, hx, sta_is al S, hz⟩
  exact ⟨v, B, X', ⟨[], ⟨hv, rfl, hh⟩, hl, hk, hs⟩, st⟩
end StrChars.Road
namespace StrChars
open Jvm Sem ClassFile Op Lib Jvm.Stand Jvm.Free.XT Jvm.Free.ALB Jvm.Free.JM Jvm.Free
open Jvm.Lib.Cold (StaticIs)
/-- what place i of a byte[]'s cell holds -/
def yv (A : Cell) (i : Nat) : Int32 := match A.slots[i]? with | some (.int x) => x | _ => 0
theorem yv_get {a : Addr} {A : Cell} {U : State} (h : XT.Arr .byte a A U) (ht : Typed .byte A) {i : Nat} (hi : i < A.slots.size) : A.slots[i]? = some (.int (yv A i)) := by
  have e := Array.getElem?_eq_getElem hi
  have f := ht i _ e
  unfold yv; rw [e]
  generalize A.slots[i] = v at f
  cases v <;> simp [fits] at f ⊢
/-- the two arrays are equal, place for place -/
def EqC (A B : Cell) : Prop := A.slots.size = B.slots.size ∧ ∀ i, i < A.slots.size → yv A i = yv B i
/-- a boolean that says whether p -/
def Says01 (q : Prop) (r : Option Value) (s u : State) : Prop := ∃ v : Int32, r = some (.int v) ∧ u.heap = s.heap ∧ ((v = 1 ∧ q) ∨ (v = 0 ∧ ¬ q))
theorem Says01.mv {q : Prop} : ∀ r (U U' V V' : State), U'.heap = U.heap → V.vm.Alike V'.vm → V'.heap = V.heap → Says01 q r U V → Says01 q r U' V' :=
  fun r U U' V V' h1 _ h2 ⟨v, a, b, c⟩ => ⟨v, a, by rw [h1, h2]; exact b, c⟩
namespace LEq
def yN : MethodName := ⟨"java/lang/StringLatin1", "equals", "([B[B)Z"⟩
abbrev yB : ByteArray := jdk_43_method_13_code
theorem d0 : decode yB 0 = .ok (.aload_n 0, 1) := by decide +kernel
theorem d1 : decode yB 1 = .ok (.arraylength, 1) := by decide +kernel
theorem d2 : decode yB 2 = .ok (.aload_n 1, 1) := by decide +kernel
theorem d3 : decode yB 3 = .ok (.arraylength, 1) := by decide +kernel
theorem d4 : decode yB 4 = .ok (.if_icmp (.ne) 30, 3) := by decide +kernel
theorem d7 : decode yB 7 = .ok (.iconst 0, 1) := by decide +kernel
theorem d8 : decode yB 8 = .ok (.istore_n 2, 1) := by decide +kernel
theorem d9 : decode yB 9 = .ok (.iload_n 2, 1) := by decide +kernel
theorem d10 : decode yB 10 = .ok (.aload_n 0, 1) := by decide +kernel
theorem d11 : decode yB 11 = .ok (.arraylength, 1) := by decide +kernel
theorem d12 : decode yB 12 = .ok (.if_icmp (.ge) 20, 3) := by decide +kernel
theorem d15 : decode yB 15 = .ok (.aload_n 0, 1) := by decide +kernel
theorem d16 : decode yB 16 = .ok (.iload_n 2, 1) := by decide +kernel
theorem d17 : decode yB 17 = .ok (.baload, 1) := by decide +kernel
theorem d18 : decode yB 18 = .ok (.aload_n 1, 1) := by decide +kernel
theorem d19 : decode yB 19 = .ok (.iload_n 2, 1) := by decide +kernel
theorem d20 : decode yB 20 = .ok (.baload, 1) := by decide +kernel
theorem d21 : decode yB 21 = .ok (.if_icmp (.eq) 5, 3) := by decide +kernel
theorem d24 : decode yB 24 = .ok (.iconst 0, 1) := by decide +kernel
theorem d25 : decode yB 25 = .ok (.ireturn, 1) := by decide +kernel
theorem d26 : decode yB 26 = .ok (.iinc 2 1, 3) := by decide +kernel
theorem d29 : decode yB 29 = .ok (.goto (-20), 3) := by decide +kernel
theorem d32 : decode yB 32 = .ok (.iconst 1, 1) := by decide +kernel
theorem d33 : decode yB 33 = .ok (.ireturn, 1) := by decide +kernel
theorem d34 : decode yB 34 = .ok (.iconst 0, 1) := by decide +kernel
theorem d35 : decode yB 35 = .ok (.ireturn, 1) := by decide +kernel
def site : List Cond := []
def tab : Cond := tabOf yN yB 3 (some .boolean) site
def P (a : Addr) (A : Cell) (b : Addr) (B : Cell) (args : Array Value) (s : State) : Prop := args = #[.ref a, .ref b] ∧ XT.Arr .byte a A s ∧ Typed .byte A ∧ XT.Arr .byte b B s ∧ Typed .byte B
/-- whether two byte[] are equal, place for place -/
theorem law (l : Launch) (a : Addr) (A : Cell) (b : Addr) (B : Cell) : Law l yN 2 2 0 0 yB 3 (some .boolean) site (P a A b B) (Says01 (EqC A B)) [] 0 0 := by
  refine Law.of_walk (plainFor_of_name (by decide +kernel)) (by decide +kernel) (by decide +kernel) (by decide) (fun _ _ h => by rw [h.1]; rfl) (fun _ U U' hal hh h => ⟨h.1, h.2.1.mv hal hh, h.2.2.1, h.2.2.2.1.mv hal hh, h.2.2.2.2⟩) (fun r U U' V V' h1 hal h2 h => Says01.mv r U U' V V' h1 hal h2 h) ?_
  intro p e s m args below meth c s₁ X0 hexec hbytes hml hret hlk hnm hown hh0 W hP
  obtain ⟨rfl, hA, tA, hB, tB⟩ := hP
  have a31 := hA.2.2.2
  have b31 := hB.2.2.2
  have hA0 := hA.mv X0.warmed.alike hh0
  have hB0 := hB.mv X0.warmed.alike hh0
  have c1 : Steps p.tables e below (s₁.setTop (entryFrame m #[.ref a, .ref b] 3)) (s₁.setTop (mkF m 0 #[.val (.ref a), .val (.ref b), .unset] [])) := entry rfl
  have c2 : Steps p.tables e below (s₁.setTop (entryFrame m #[.ref a, .ref b] 3)) (s₁.setTop (mkF m 4 #[.val (.ref a), .val (.ref b), .unset] [.int (Int32.ofNat B.slots.size), .int (Int32.ofNat A.slots.size)])) := c1.trans (by
    refine XS.aloadN X0.here hexec rfl (hb hbytes d0) rfl rfl ?_
    refine X0.alen hexec hA0 rfl rfl (hb hbytes d1) ?_
    refine XS.aloadN X0.here hexec rfl (hb hbytes d2) rfl rfl ?_
    refine X0.alen hexec hB0 rfl rfl (hb hbytes d3) ?_
    exact Steps.refl _)
  by_cases hs : A.slots.size = B.slots.size
  · have c3 : Steps p.tables e below (s₁.setTop (entryFrame m #[.ref a, .ref b] 3)) (s₁.setTop (mkF m 9 #[.val (.ref a), .val (.ref b), .val (.int 0)] [])) := c2.trans (by
      refine XS.icmpNo X0.here hexec rfl (hb hbytes d4) rfl (ii_ne_f (by rw [hs])) ?_
      refine iconstV X0.here hexec rfl 0 (hb hbytes d7) (by decide) ?_
      refine XS.istoreN X0.here hexec rfl (hb hbytes d8) rfl rfl ?_
      exact Steps.refl _)
    have loop : ∀ (r i : Nat), i + r = A.slots.size → (∀ j, j < i → yv A j = yv B j) → Steps p.tables e below (s₁.setTop (entryFrame m #[.ref a, .ref b] 3)) (s₁.setTop (mkF m 9 #[.val (.ref a), .val (.ref b), .val (.int (Int32.ofNat i))] [])) → ∃ (pc : Nat) (Ls : Array Slot) (v : Int32), (pc = 25 ∨ pc = 33) ∧ ((v = 1 ∧ EqC A B) ∨ (v = 0 ∧ ¬ EqC A B)) ∧ Steps p.tables e below (s₁.setTop (entryFrame m #[.ref a, .ref b] 3)) (s₁.setTop (mkF m pc Ls [.int v])) := by
      intro r
      induction r with
      | zero =>
        intro i hi he cl
        exact ⟨33, _, 1, Or.inr rfl, Or.inl ⟨rfl, hs, fun j hj => he j (by omega)⟩, cl.trans (by
          refine XS.iloadN X0.here hexec rfl (hb hbytes d9) rfl ?_
          refine XS.aloadN X0.here hexec rfl (hb hbytes d10) rfl rfl ?_
          refine X0.alen hexec hA0 rfl rfl (hb hbytes d11) ?_
          refine XS.icmpYes X0.here hexec rfl (pc0 := 12) rfl (hb hbytes d12) rfl (ii_ge_t (nlt32 (by omega) (by omega))) (by decide) rfl ?_
          refine iconstV X0.here hexec rfl 1 (hb hbytes d32) (by decide) ?_
          exact Steps.refl _)⟩
      | succ r ih =>
        intro i hi he cl
        have c4 : Steps p.tables e below (s₁.setTop (entryFrame m #[.ref a, .ref b] 3)) (s₁.setTop (mkF m 21 #[.val (.ref a), .val (.ref b), .val (.int (Int32.ofNat i))] [.int (yv B i), .int (yv A i)])) := cl.trans (by
          refine XS.iloadN X0.here hexec rfl (hb hbytes d9) rfl ?_
          refine XS.aloadN X0.here hexec rfl (hb hbytes d10) rfl rfl ?_
          refine X0.alen hexec hA0 rfl rfl (hb hbytes d11) ?_
          refine XS.icmpNo X0.here hexec rfl (hb hbytes d12) rfl (ii_ge_f (lt32 (by omega) (by omega))) ?_
          refine XS.aloadN X0.here hexec rfl (hb hbytes d15) rfl rfl ?_
          refine XS.iloadN X0.here hexec rfl (hb hbytes d16) rfl ?_
          refine X0.aget hexec hA0 rfl (yv_get hA tA (i := i) (by omega)) rfl rfl (hb hbytes d17) ?_
          refine XS.aloadN X0.here hexec rfl (hb hbytes d18) rfl rfl ?_
          refine XS.iloadN X0.here hexec rfl (hb hbytes d19) rfl ?_
          refine X0.aget hexec hB0 rfl (yv_get hB tB (i := i) (by omega)) rfl rfl (hb hbytes d20) ?_
          exact Steps.refl _)
        by_cases hv : yv A i = yv B i
        · have c5 : Steps p.tables e below (s₁.setTop (entryFrame m #[.ref a, .ref b] 3)) (s₁.setTop (mkF m 9 #[.val (.ref a), .val (.ref b), .val (.int (Int32.ofNat i + 1))] [])) := c4.trans (by
            refine XS.icmpYes X0.here hexec rfl (pc0 := 21) rfl (hb hbytes d21) rfl (ii_eq_t hv) (by decide) rfl ?_
            refine iincV X0.here hexec rfl 1 (hb hbytes d26) (by decide) rfl rfl ?_
            refine XS.goto X0.here hexec rfl (pc0 := 29) rfl (hb hbytes d29) (by decide) rfl ?_
            exact Steps.refl _)
          rw [succ32] at c5
          exact ih (i + 1) (by omega) (fun j hj => by
            by_cases e : j = i
            · rw [e]; exact hv
            · exact he j (by omega)) c5
        · exact ⟨25, _, 0, Or.inl rfl, Or.inr ⟨rfl, fun q => hv (q.2 i (by omega))⟩, c4.trans (by
            refine XS.icmpNo X0.here hexec rfl (hb hbytes d21) rfl (ii_eq_f hv) ?_
            refine iconstV X0.here hexec rfl 0 (hb hbytes d24) (by decide) ?_
            exact Steps.refl _)⟩
    obtain ⟨pc, Ls, v, hpc, hv, cz⟩ := loop A.slots.size 0 (by omega) (fun j hj => absurd hj (Nat.not_lt_zero j)) c3
    have nv : narrow .boolean (.int v) = .int v := by rcases hv with ⟨rfl, -⟩ | ⟨rfl, -⟩ <;> rfl
    rcases hpc with rfl | rfl
    · exact ⟨s₁, some (.int v), _, _, _, X0, rfl, rfl, rfl, (fun h => by cases h), ⟨v, rfl, hh0, hv⟩, fun fs hl => cz.trans (X0.ireturnOut hexec hret nv (Or.inr (Or.inl rfl)) (hb hbytes d25) hl)⟩
    · exact ⟨s₁, some (.int v), _, _, _, X0, rfl, rfl, rfl, (fun h => by cases h), ⟨v, rfl, hh0, hv⟩, fun fs hl => cz.trans (X0.ireturnOut hexec hret nv (Or.inr (Or.inl rfl)) (hb hbytes d33) hl)⟩
  · have c3 : Steps p.tables e below (s₁.setTop (entryFrame m #[.ref a, .ref b] 3)) (s₁.setTop (mkF m 35 #[.val (.ref a), .val (.ref b), .unset] [.int 0])) := c2.trans (by
      refine XS.icmpYes X0.here hexec rfl (pc0 := 4) rfl (hb hbytes d4) rfl (ii_ne_t (ne32 a31 b31 hs)) (by decide) rfl ?_
      refine iconstV X0.here hexec rfl 0 (hb hbytes d34) (by decide) ?_
      exact Steps.refl _)
    exact ⟨s₁, some (.int 0), _, _, _, X0, rfl, rfl, rfl, (fun h => by cases h), ⟨0, rfl, hh0, Or.inr ⟨rfl, fun q => hs q.1⟩⟩, fun fs hl => c3.trans (X0.ireturnOut hexec hret rfl (Or.inr (Or.inl rfl)) (hb hbytes d35) hl)⟩
end LEq
theorem Cod.ty {cd : Int32} {n : Nat} {f : Nat → Int32} {V : Cell} (h : Cod cd n f V) : Typed .byte V := fun i v hv => by
  have hi : i < V.slots.size := (Array.getElem?_eq_some_iff.mp hv).1
  rcases h with ⟨-, k1, k2⟩ | ⟨-, k1, k2, -⟩
  · rw [(k2 i (by omega)).1] at hv; cases hv; exact fits_lo8 _
  · rcases Nat.mod_two_eq_zero_or_one i with e | e
    · obtain ⟨j, rfl⟩ : ∃ j, i = 2 * j := ⟨i / 2, by omega⟩
      rw [(k2 j (by omega)).1] at hv; cases hv; exact fits_lo8 _
    · obtain ⟨j, rfl⟩ : ∃ j, i = 2 * j + 1 := ⟨i / 2, by omega⟩
      rw [(k2 j (by omega)).2] at hv; cases hv; exact fits_lo8 _
/-- the same text -/
def SameT (n : Nat) (f : Nat → Int32) (k : Nat) (g : Nat → Int32) : Prop := n = k ∧ ∀ j, j < n → f j = g j
theorem lo8_inj {x y : Int32} (h0 : ¬ x < 0) (h1 : ¬ 255 < x) (k0 : ¬ y < 0) (k1 : ¬ 255 < y) (h : lo8 x = lo8 y) : x = y := by
  rw [← lo8_mask h0 h1, ← lo8_mask k0 k1, h]
/-- arrays coded by one coder are equal just where the texts are -/
theorem Cod.eqv {cd : Int32} {n k : Nat} {f g : Nat → Int32} {V V' : Cell} (h : Cod cd n f V) (h' : Cod cd k g V') (hf : ∀ j, j < n → ¬ f j < 0 ∧ ¬ 65535 < f j) (hg : ∀ j, j < k → ¬ g j < 0 ∧ ¬ 65535 < g j) : EqC V V' ↔ SameT n f k g := by
  have yvv : ∀ {W : Cell} {i : Nat} {x : Int32}, W.slots[i]? = some (.int x) → yv W i = x := fun q => by unfold yv; rw [q]
  rcases h with ⟨rfl, k1, k2⟩ | ⟨rfl, k1, k2, -⟩
  · rcases h' with ⟨-, m1, m2⟩ | ⟨e, -⟩
    · constructor
      · rintro ⟨e1, e2⟩
        refine ⟨by omega, fun j hj => ?_⟩
        have q := e2 j (by omega)
        rw [yvv (k2 j hj).1, yvv (m2 j (by omega)).1] at q
        exact lo8_inj (hf j hj).1 (k2 j hj).2 (hg j (by omega)).1 (m2 j (by omega)).2 q
      · rintro ⟨rfl, e2⟩
        refine ⟨by omega, fun j hj => ?_⟩
        rw [yvv (k2 j (by omega)).1, yvv (m2 j (by omega)).1, e2 j (by omega)]
    · exact absurd e (by decide)
  · rcases h' with ⟨e, -⟩ | ⟨-, m1, m2, -⟩
    · exact absurd e (by decide)
    · constructor
      · rintro ⟨e1, e2⟩
        refine ⟨by omega, fun j hj => ?_⟩
        have q1 := e2 (2 * j) (by omega)
        have q2 := e2 (2 * j + 1) (by omega)
        rw [yvv (k2 j hj).1, yvv (m2 j (by omega)).1] at q1
        rw [yvv (k2 j hj).2, yvv (m2 j (by omega)).2] at q2
        rw [← pair_says (hf j hj).1 (hf j hj).2, ← pair_says (hg j (by omega)).1 (hg j (by omega)).2, q1, q2]
      · rintro ⟨rfl, e2⟩
        refine ⟨by omega, fun i hi => ?_⟩
        rcases Nat.mod_two_eq_zero_or_one i with e | e
        · obtain ⟨j, rfl⟩ : ∃ j, i = 2 * j := ⟨i / 2, by omega⟩
          rw [yvv (k2 j (by omega)).1, yvv (m2 j (by omega)).1, e2 j (by omega)]
        · obtain ⟨j, rfl⟩ : ∃ j, i = 2 * j + 1 := ⟨i / 2, by omega⟩
          rw [yvv (k2 j (by omega)).2, yvv (m2 j (by omega)).2, e2 j (by omega)]
/-- two codings differ: so do the texts -/
theorem Cod.dif {cd cd' : Int32} {n k : Nat} {f g : Nat → Int32} {V V' : Cell} (h : Cod cd n f V) (h' : Cod cd' k g V') (hne : ¬ cd = cd') : ¬ SameT n f k g := by
  rintro ⟨rfl, e⟩
  rcases h with ⟨rfl, -, k2⟩ | ⟨rfl, -, -, j, hj, hw⟩
  · rcases h' with ⟨rfl, -⟩ | ⟨-, -, -, j, hj, hw⟩
    · exact hne rfl
    · exact (k2 j hj).2 (by rw [e j hj]; exact hw)
  · rcases h' with ⟨-, -, m2⟩ | ⟨rfl, -⟩
    · exact (m2 j hj).2 (by rw [← e j hj]; exact hw)
    · exact hne rfl
/-- an object of exactly C is an instance of C -/
theorem cinst {p : Program} {l : Launch} {e : Env} {R : Room} {s : State} {m : MethodId} {args : Array Value} {below : List Frame} {meth : Method} {c : Code} {T : State} {locs : List Loc} {cells slots : Nat} (X : Stand p l e R s m args below meth c T locs cells slots) (hexec : p.tables.exec = Jvm.exec) {own C : String} {index : Nat} (hown : s.vm.findClass own = some m.cls) (hlink : (Cond.classLink own index C).before args s = true) {a : Addr} (hE : Exact C a T)
    {g : JFrame} (hg : g.method = m) {rest : List Value} (hstack : g.stack = .ref a :: rest) (hdg : decode c.code g.pc = .ok (.instanceof index, 3)) :
    ∃ T', Stand p l e R s m args below meth c T' locs cells slots ∧ T'.heap = T.heap ∧ ∀ target, Steps p.tables e below (T'.setTop { g with pc := g.pc + 3, stack := .int 1 :: rest }) target → Steps p.tables e below (T.setTop g) target := by
  obtain ⟨cB, h1, D, h2, h3, h4⟩ := hE
  have h1' : s.vm.findClass C = some cB := by rw [← X.warmed.alike.findClass]; exact h1
  obtain ⟨vm', X', st⟩ := X.instanceofYes hexec hown hlink h2 h4 h1' (by rw [h3]; exact Jvm.Free.SB.assignable_self _ _) hg hstack hdg
  exact ⟨_, X', rfl, st⟩
theorem cself {p : Program} {l : Launch} {e : Env} {R : Room} {s : State} {m : MethodId} {args : Array Value} {below : List Frame} {meth : Method} {c : Code} {T : State} {locs : List Loc} {cells slots : Nat} (X : Stand p l e R s m args below meth c T locs cells slots) (hexec : p.tables.exec = Jvm.exec) {own C : String} {index : Nat} (hown : s.vm.findClass own = some m.cls) (hlink : (Cond.classLink own index C).before args s = true) {a : Addr} (hE : Exact C a T)
    {g : JFrame} (hg : g.method = m) {rest : List Value} (hstack : g.stack = .ref a :: rest) (hdg : decode c.code g.pc = .ok (.checkcast index, 3)) :
    ∃ T', Stand p l e R s m args below meth c T' locs cells slots ∧ T'.heap = T.heap ∧ ∀ target, Steps p.tables e below (T'.setTop { g with pc := g.pc + 3, stack := .ref a :: rest }) target → Steps p.tables e below (T.setTop g) target := by
  obtain ⟨cB, h1, D, h2, h3, h4⟩ := hE
  have h1' : s.vm.findClass C = some cB := by rw [← X.warmed.alike.findClass]; exact h1
  obtain ⟨vm', X', st⟩ := X.checkcastYes hexec hown hlink h2 h4 h1' (by rw [h3]; exact Jvm.Free.SB.assignable_self _ _) hg hstack hdg
  exact ⟨_, X', rfl, fun t h => st t (by rw [← hstack] at h; exact h)⟩
namespace SEq
def yN : MethodName := ⟨"java/lang/String", "equals", "(Ljava/lang/Object;)Z"⟩
abbrev yB : ByteArray := jdk_42_method_66_code
theorem d0 : decode yB 0 = .ok (.aload_n 0, 1) := by decide +kernel
theorem d1 : decode yB 1 = .ok (.aload_n 1, 1) := by decide +kernel
theorem d2 : decode yB 2 = .ok (.if_acmp (.ne) 5, 3) := by decide +kernel
theorem d5 : decode yB 5 = .ok (.iconst 1, 1) := by decide +kernel
theorem d6 : decode yB 6 = .ok (.ireturn, 1) := by decide +kernel
theorem d7 : decode yB 7 = .ok (.aload_n 1, 1) := by decide +kernel
theorem d8 : decode yB 8 = .ok (.instanceof 10, 3) := by decide +kernel
theorem d11 : decode yB 11 = .ok (.ifCond (.eq) 43, 3) := by decide +kernel
theorem d14 : decode yB 14 = .ok (.aload_n 1, 1) := by decide +kernel
theorem d15 : decode yB 15 = .ok (.checkcast 10, 3) := by decide +kernel
theorem d18 : decode yB 18 = .ok (.astore_n 2, 1) := by decide +kernel
theorem d19 : decode yB 19 = .ok (.getstatic 38, 3) := by decide +kernel
theorem d22 : decode yB 22 = .ok (.ifCond (.eq) 14, 3) := by decide +kernel
theorem d25 : decode yB 25 = .ok (.aload_n 0, 1) := by decide +kernel
theorem d26 : decode yB 26 = .ok (.getfield 15, 3) := by decide +kernel
theorem d29 : decode yB 29 = .ok (.aload_n 2, 1) := by decide +kernel
theorem d30 : decode yB 30 = .ok (.getfield 15, 3) := by decide +kernel
theorem d33 : decode yB 33 = .ok (.if_icmp (.ne) 21, 3) := by decide +kernel
theorem d36 : decode yB 36 = .ok (.aload_n 0, 1) := by decide +kernel
theorem d37 : decode yB 37 = .ok (.getfield 9, 3) := by decide +kernel
theorem d40 : decode yB 40 = .ok (.aload_n 2, 1) := by decide +kernel
theorem d41 : decode yB 41 = .ok (.getfield 9, 3) := by decide +kernel
theorem d44 : decode yB 44 = .ok (.invokestatic 541, 3) := by decide +kernel
theorem d47 : decode yB 47 = .ok (.ifCond (.eq) 7, 3) := by decide +kernel
theorem d50 : decode yB 50 = .ok (.iconst 1, 1) := by decide +kernel
theorem d51 : decode yB 51 = .ok (.goto 4, 3) := by decide +kernel
theorem d54 : decode yB 54 = .ok (.iconst 0, 1) := by decide +kernel
theorem d55 : decode yB 55 = .ok (.ireturn, 1) := by decide +kernel
def site : List Cond := [.classLink "java/lang/String" 10 "java/lang/String", .fieldLink "java/lang/String" 38 "java/lang/String" "COMPACT_STRINGS" "Z", .fieldLink "java/lang/String" 15 "java/lang/String" "coder" "B", .fieldLink "java/lang/String" 9 "java/lang/String" "value" "[B", LEq.tab] ++ staticW "java/lang/String" 541 LEq.yN
def tab : Cond := tabOf yN yB 3 (some .boolean) site
def P (x t : Addr) (V : Cell) (cd : Int32) (n : Nat) (f : Nat → Int32) (y t' : Addr) (V' : Cell) (cd' : Int32) (k : Nat) (g : Nat → Int32) (z : Int32) (args : Array Value) (s : State) : Prop := args = #[.ref x, .ref y] ∧ Txt x t V cd n f s ∧ Txt y t' V' cd' k g s ∧ StaticIs s "java/lang/String" "COMPACT_STRINGS" "Z" (.int z) ∧ ¬ z = 0
/-- equals(Object) of two Strings: whether the texts are the same -/
theorem law (l : Launch) (x t : Addr) (V : Cell) (cd : Int32) (n : Nat) (f : Nat → Int32) (y t' : Addr) (V' : Cell) (cd' : Int32) (k : Nat) (g : Nat → Int32) (z : Int32) : Law l yN 2 1 1 14 yB 3 (some .boolean) site (P x t V cd n f y t' V' cd' k g z) (Says01 (SameT n f k g)) [] 0 0 := by
  refine Law.of_walk (plainFor_of_name (by decide +kernel)) (by decide +kernel) (by decide +kernel) (by decide) (fun _ _ h => by rw [h.1]; rfl) (fun _ U U' hal hh h => ⟨h.1, h.2.1.mv hal hh, h.2.2.1.mv hal hh, h.2.2.2.1.there hal hh, h.2.2.2.2⟩) (fun r U U' V V' h1 hal h2 h => Says01.mv r U U' V V' h1 hal h2 h) ?_
  intro p e s m args below meth c s₁ X0 hexec hbytes hml hret hlk hnm hown hh0 W hP
  obtain ⟨rfl, hx, hy, s1, hz⟩ := hP
  have c1 : Steps p.tables e below (s₁.setTop (entryFrame m #[.ref x, .ref y] 3)) (s₁.setTop (mkF m 2 #[.val (.ref x), .val (.ref y), .unset] [.ref y, .ref x])) := Steps.trans (entry rfl) (by
    show Steps p.tables e below (s₁.setTop (mkF m 0 #[.val (.ref x), .val (.ref y), .unset] [])) _
    refine XS.aloadN X0.here hexec rfl (hb hbytes d0) rfl rfl ?_
    refine XS.aloadN X0.here hexec rfl (hb hbytes d1) rfl rfl ?_
    exact Steps.refl _)
  by_cases hxy : x = y
  · have c2 : Steps p.tables e below (s₁.setTop (entryFrame m #[.ref x, .ref y] 3)) (s₁.setTop (mkF m 6 #[.val (.ref x), .val (.ref y), .unset] [.int 1])) := c1.trans (by
      refine acmpNo X0.here hexec rfl (hb hbytes d2) rfl rfl rfl (by simp [acmp, hxy]) ?_
      refine iconstV X0.here hexec rfl 1 (hb hbytes d5) (by decide) ?_
      exact Steps.refl _)
    subst hxy
    have ec : cd = cd' := by
      obtain ⟨D, fd, a1, a2, a3⟩ := hx.2.2.1
      obtain ⟨D', fd', b1, b2, b3⟩ := hy.2.2.1
      cases a1.symm.trans b1
      obtain ⟨q1, q2, q3, q4⟩ := a2.1
      obtain ⟨r1, r2, r3, r4⟩ := b2.1
      cases q4.symm.trans r4
      cases a3.symm.trans b3; rfl
    have et : t = t' := by
      obtain ⟨D, fd, a1, a2, a3⟩ := hx.2.1
      obtain ⟨D', fd', b1, b2, b3⟩ := hy.2.1
      cases a1.symm.trans b1
      obtain ⟨q1, q2, q3, q4⟩ := a2.1
      obtain ⟨r1, r2, r3, r4⟩ := b2.1
      cases q4.symm.trans r4
      cases a3.symm.trans b3; rfl
    subst ec et
    have ev : V = V' := by cases hx.2.2.2.1.1.symm.trans hy.2.2.2.1.1; rfl
    subst ev
    have hs : SameT n f k g := (Cod.eqv hx.2.2.2.2.1 hy.2.2.2.2.1 hx.2.2.2.2.2 hy.2.2.2.2.2).mp ⟨rfl, fun _ _ => rfl⟩
    exact ⟨s₁, some (.int 1), _, _, _, X0, rfl, rfl, rfl, (fun h => by cases h), ⟨1, rfl, hh0, Or.inl ⟨rfl, hs⟩⟩, fun fs hl => c2.trans (X0.ireturnOut hexec hret rfl (Or.inr (Or.inl rfl)) (hb hbytes d6) hl)⟩
  · have c2 : Steps p.tables e below (s₁.setTop (entryFrame m #[.ref x, .ref y] 3)) (s₁.setTop (mkF m 8 #[.val (.ref x), .val (.ref y), .unset] [.ref y])) := c1.trans (by
      refine acmpYes X0.here hexec rfl (pc0 := 2) rfl (hb hbytes d2) rfl rfl rfl (by simp [acmp, hxy]) (by decide) rfl ?_
      refine XS.aloadN X0.here hexec rfl (hb hbytes d7) rfl rfl ?_
      exact Steps.refl _)
    obtain ⟨T3, X3, q3, st3⟩ := cinst X0 hexec hown (wk W (.classLink "java/lang/String" 10 "java/lang/String")) (hy.mv X0.warmed.alike hh0).1 (g := (mkF m 8 #[.val (.ref x), .val (.ref y), .unset] [.ref y])) rfl (rest := []) rfl (hb hbytes d8)
    have hh3 := q3.trans hh0
    have c4 : Steps p.tables e below (s₁.setTop (entryFrame m #[.ref x, .ref y] 3)) (T3.setTop (mkF m 15 #[.val (.ref x), .val (.ref y), .unset] [.ref y])) := (c2.trans (st3 _ (Steps.refl _))).trans (by
      refine XS.ifNo X3.here hexec rfl (hb hbytes d11) rfl (i0_eq_f (by decide)) ?_
      refine XS.aloadN X3.here hexec rfl (hb hbytes d14) rfl rfl ?_
      exact Steps.refl _)
    obtain ⟨T5, X5, q5, st5⟩ := cself X3 hexec hown (wk W (.classLink "java/lang/String" 10 "java/lang/String")) (hy.mv X3.warmed.alike hh3).1 (g := (mkF m 15 #[.val (.ref x), .val (.ref y), .unset] [.ref y])) rfl (rest := []) rfl (hb hbytes d15)
    have hh5 := q5.trans hh3
    have c6 : Steps p.tables e below (s₁.setTop (entryFrame m #[.ref x, .ref y] 3)) (T5.setTop (mkF m 19 #[.val (.ref x), .val (.ref y), .val (.ref y)] [])) := (c4.trans (st5 _ (Steps.refl _))).trans (by
      refine XS.astoreN X5.here hexec rfl (hb hbytes d18) rfl rfl rfl ?_
      exact Steps.refl _)
    obtain ⟨T7, X7, q7, st7⟩ := X5.sget hexec hown (wk W (.fieldLink "java/lang/String" 38 "java/lang/String" "COMPACT_STRINGS" "Z")) s1 (fun _ _ h => by rw [hh5]; exact h) (g := (mkF m 19 #[.val (.ref x), .val (.ref y), .val (.ref y)] [])) rfl (hb hbytes d19)
    have hh7 := q7.trans hh5
    have c8 : Steps p.tables e below (s₁.setTop (entryFrame m #[.ref x, .ref y] 3)) (T7.setTop (mkF m 26 #[.val (.ref x), .val (.ref y), .val (.ref y)] [.ref x])) := (c6.trans (st7 _ (Steps.refl _))).trans (by
      refine XS.ifNo X7.here hexec rfl (hb hbytes d22) rfl (i0_eq_f hz) ?_
      refine XS.aloadN X7.here hexec rfl (hb hbytes d25) rfl rfl ?_
      exact Steps.refl _)
    obtain ⟨T9, X9, q9, st9⟩ := X7.hget hexec hown (wk W (.fieldLink "java/lang/String" 15 "java/lang/String" "coder" "B")) (hx.mv X7.warmed.alike hh7).2.2.1 (g := (mkF m 26 #[.val (.ref x), .val (.ref y), .val (.ref y)] [.ref x])) rfl (rest := []) rfl (hb hbytes d26)
    have hh9 := q9.trans hh7
    have c10 : Steps p.tables e below (s₁.setTop (entryFrame m #[.ref x, .ref y] 3)) (T9.setTop (mkF m 30 #[.val (.ref x), .val (.ref y), .val (.ref y)] [.ref y, .int cd])) := (c8.trans (st9 _ (Steps.refl _))).trans (by
      refine XS.aloadN X9.here hexec rfl (hb hbytes d29) rfl rfl ?_
      exact Steps.refl _)
    obtain ⟨T11, X11, q11, st11⟩ := X9.hget hexec hown (wk W (.fieldLink "java/lang/String" 15 "java/lang/String" "coder" "B")) (hy.mv X9.warmed.alike hh9).2.2.1 (g := (mkF m 30 #[.val (.ref x), .val (.ref y), .val (.ref y)] [.ref y, .int cd])) rfl (rest := [.int cd]) rfl (hb hbytes d30)
    have hh11 := q11.trans hh9
    have c12 : Steps p.tables e below (s₁.setTop (entryFrame m #[.ref x, .ref y] 3)) (T11.setTop (mkF m 33 #[.val (.ref x), .val (.ref y), .val (.ref y)] [.int cd', .int cd])) := c10.trans (st11 _ (Steps.refl _))
    by_cases hcd : cd = cd'
    · subst hcd
      have c13 : Steps p.tables e below (s₁.setTop (entryFrame m #[.ref x, .ref y] 3)) (T11.setTop (mkF m 37 #[.val (.ref x), .val (.ref y), .val (.ref y)] [.ref x])) := c12.trans (by
        refine XS.icmpNo X11.here hexec rfl (hb hbytes d33) rfl (ii_ne_f rfl) ?_
        refine XS.aloadN X11.here hexec rfl (hb hbytes d36) rfl rfl ?_
        exact Steps.refl _)
      obtain ⟨T14, X14, q14, st14⟩ := X11.hget hexec hown (wk W (.fieldLink "java/lang/String" 9 "java/lang/String" "value" "[B")) (hx.mv X11.warmed.alike hh11).2.1 (g := (mkF m 37 #[.val (.ref x), .val (.ref y), .val (.ref y)] [.ref x])) rfl (rest := []) rfl (hb hbytes d37)
      have hh14 := q14.trans hh11
      have c15 : Steps p.tables e below (s₁.setTop (entryFrame m #[.ref x, .ref y] 3)) (T14.setTop (mkF m 41 #[.val (.ref x), .val (.ref y), .val (.ref y)] [.ref y, .ref t])) := (c13.trans (st14 _ (Steps.refl _))).trans (by
        refine XS.aloadN X14.here hexec rfl (hb hbytes d40) rfl rfl ?_
        exact Steps.refl _)
      obtain ⟨T16, X16, q16, st16⟩ := X14.hget hexec hown (wk W (.fieldLink "java/lang/String" 9 "java/lang/String" "value" "[B")) (hy.mv X14.warmed.alike hh14).2.1 (g := (mkF m 41 #[.val (.ref x), .val (.ref y), .val (.ref y)] [.ref y, .ref t])) rfl (rest := [.ref t]) rfl (hb hbytes d41)
      have hh16 := q16.trans hh14
      have c17 : Steps p.tables e below (s₁.setTop (entryFrame m #[.ref x, .ref y] 3)) (T16.setTop (mkF m 44 #[.val (.ref x), .val (.ref y), .val (.ref y)] [.ref t', .ref t])) := c15.trans (st16 _ (Steps.refl _))
      obtain ⟨v18, T18, X18, E18, g18⟩ := X16.callS hexec (LEq.law l t V t' V') hown (wks W (staticW "java/lang/String" 541 LEq.yN)) (wk W LEq.tab) (W := 0) (Nat.le_of_ble_eq_true rfl) (Nat.le_of_ble_eq_true rfl) (Nat.le_refl _) (Nat.le_refl _) (g := (mkF m 44 #[.val (.ref x), .val (.ref y), .val (.ref y)] [.ref t', .ref t])) rfl (by rw [hml]; rfl) c17 (argsL := [.ref t, .ref t']) (rest := []) rfl rfl (by show 2 * 0 + 0 ≤ _; decide) (hb hbytes d44) (⟨rfl, hx.2.2.2.1.mv X16.warmed.alike hh16, hx.2.2.2.2.1.ty, hy.2.2.2.1.mv X16.warmed.alike hh16, hy.2.2.2.2.1.ty⟩)
      obtain ⟨v, rfl, q18, hv⟩ := E18
      have iff := Cod.eqv hx.2.2.2.2.1 hy.2.2.2.2.1 hx.2.2.2.2.2 hy.2.2.2.2.2
      rcases hv with ⟨rfl, he⟩ | ⟨rfl, he⟩
      · have c19 : Steps p.tables e below (s₁.setTop (entryFrame m #[.ref x, .ref y] 3)) (T18.setTop (mkF m 55 #[.val (.ref x), .val (.ref y), .val (.ref y)] [.int 1])) := Steps.trans g18 (by
          refine XS.ifNo X18.here hexec rfl (hb hbytes d47) rfl (i0_eq_f (by decide)) ?_
          refine iconstV X18.here hexec rfl 1 (hb hbytes d50) (by decide) ?_
          refine XS.goto X18.here hexec rfl (pc0 := 51) rfl (hb hbytes d51) (by decide) rfl ?_
          exact Steps.refl _)
        exact ⟨T18, some (.int 1), _, _, _, X18, rfl, rfl, rfl, (fun h => by cases h), ⟨1, rfl, q18.trans hh16, Or.inl ⟨rfl, iff.mp he⟩⟩, fun fs hl => c19.trans (X18.ireturnOut hexec hret rfl (Or.inr (Or.inl rfl)) (hb hbytes d55) hl)⟩
      · have c19 : Steps p.tables e below (s₁.setTop (entryFrame m #[.ref x, .ref y] 3)) (T18.setTop (mkF m 55 #[.val (.ref x), .val (.ref y), .val (.ref y)] [.int 0])) := Steps.trans g18 (by
          refine XS.ifYes X18.here hexec rfl (pc0 := 47) rfl (hb hbytes d47) rfl (i0_eq_t rfl) (by decide) rfl ?_
          refine iconstV X18.here hexec rfl 0 (hb hbytes d54) (by decide) ?_
          exact Steps.refl _)
        exact ⟨T18, some (.int 0), _, _, _, X18, rfl, rfl, rfl, (fun h => by cases h), ⟨0, rfl, q18.trans hh16, Or.inr ⟨rfl, fun q => he (iff.mpr q)⟩⟩, fun fs hl => c19.trans (X18.ireturnOut hexec hret rfl (Or.inr (Or.inl rfl)) (hb hbytes d55) hl)⟩
    · have c13 : Steps p.tables e below (s₁.setTop (entryFrame m #[.ref x, .ref y] 3)) (T11.setTop (mkF m 55 #[.val (.ref x), .val (.ref y), .val (.ref y)] [.int 0])) := c12.trans (by
        refine XS.icmpYes X11.here hexec rfl (pc0 := 33) rfl (hb hbytes d33) rfl (ii_ne_t hcd) (by decide) rfl ?_
        refine iconstV X11.here hexec rfl 0 (hb hbytes d54) (by decide) ?_
        exact Steps.refl _)
      exact ⟨T11, some (.int 0), _, _, _, X11, rfl, rfl, rfl, (fun h => by cases h), ⟨0, rfl, hh11, Or.inr ⟨rfl, Cod.dif hx.2.2.2.2.1 hy.2.2.2.2.1 hcd⟩⟩, fun fs hl => c13.trans (X11.ireturnOut hexec hret rfl (Or.inr (Or.inl rfl)) (hb hbytes d55) hl)⟩
theorem pays {l : Launch} {R : Room} {p : Program} {e : Env} {below : List Frame} {s : State} {sargs : Array Value} {len W : Nat} (x t : Addr) (V : Cell) (cd : Int32) (n : Nat) (f : Nat → Int32) (y t' : Addr) (V' : Cell) (cd' : Int32) (k : Nat) (g : Nat → Int32) (z : Int32) (htab : tab.before sargs s = true) (hfr : 2 ≤ R.frames) (hlo : W + 28 ≤ R.locals) :
    Back l R p e below s sargs yN len W (fun A₁ a₁ => A₁.cells + 0 ≤ R.cells ∧ A₁.slots + 0 ≤ R.slots ∧ P x t V cd n f y t' V' cd' k g z a₁ A₁.U) (fun A₁ _ v₁ B₁ => Says01 (SameT n f k g) v₁ A₁.U B₁.U ∧ B₁.locs = A₁.locs ++ [] ∧ B₁.cells = A₁.cells + 0 ∧ B₁.slots = A₁.slots + 0) :=
  (law l x t V cd n f y t' V' cd' k g z).pays htab hfr (by omega)
end SEq
end StrChars
namespace StrChars.Road
open Jvm Sem ClassFile Op Lib Jvm.Stand Jvm.Free Jvm.Free.XT
open Jvm.Lib.Cold (StaticIs)
/-- the words of String.equals(Object) -/
abbrev wordsEq : List Jvm.Cond := [.code SEq.yN SEq.yB 3 (some .boolean), .initialized ST, .classLink ST 10 ST, .fieldLink ST 38 ST "COMPACT_STRINGS" "Z", .fieldLink ST 15 ST "coder" "B", .fieldLink ST 9 ST "value" "[B", .methodLink ST 541 LEq.yN, .static LEq.yN, .code LEq.yN LEq.yB 3 (some .boolean), .initialized "java/lang/StringLatin1"]
theorem tabEq_of {a : Array Value} {s : State} (h : ∀ w ∈ wordsEq, w.before a s = true) : SEq.tab.before a s = true := by
  have hl : LEq.tab.before a s = true := unparts (wk h (.code LEq.yN LEq.yB 3 (some .boolean))) (wks h (.initialized LEq.yN.cls :: LEq.site))
  have q := consq hl h
  exact unparts (wk q (.code SEq.yN SEq.yB 3 (some .boolean))) (wks q (.initialized SEq.yN.cls :: SEq.site))
theorem movedEq {Z s : State} {a0 args : Array Value} (hZ : Z.Warmed39 s.vm) (hw : ∀ d ∈ wordsEq, d.before a0 Z = true) : ∀ d ∈ wordsEq, d.before args s = true := fun d hd => by
  have t : ∀ d ∈ wordsEq, (d.onTables && d.keepsFace) = true := by decide +kernel
  exact RoadKit.mv hZ (hw d hd) (t d hd)
/-- the road's facts of a String, as the laws ask it -/
theorem txt_of {Z U : State} {a0 : Array Value} {kI : Nat} (wi : (Jvm.Cond.instantiable ST kI).before a0 Z = true) (al : Z.vm.Alike U.vm) {x t : Addr} {kb : ClassId} {cs : List Int32} {cd N2 : Int32} {vs : List Value} (E : RoadKit.Exa Z U.heap x ST) (V : RoadKit.Fld Z U.heap x ST "value" "[B" (.ref t)) (C : RoadKit.Fld Z U.heap x ST "coder" "B" (.int cd)) (K : RoadKit.Arv Z U.heap t kb .byte N2 vs (.int 0)) (hc : CodA cs cd N2 vs) (hb : ∀ c ∈ cs, ¬ c < 0 ∧ ¬ (65535 : Int32) < c) (l2 : cs.length ≤ 4000) :
    ∃ A, Txt x t A cd cs.length (fun j => cs.getD j 0) U := by
  obtain ⟨A, K1, K2, K3, K4, K5, K6⟩ := K
  have hcod := hc.cod (by omega) K3 K5
  obtain ⟨D, fV, fC, hB, F1, F2, g1, g2, -, -⟩ := strObj wi al E V C
  exact ⟨A, ⟨_, hB.2.2.1, D, hB.1, rfl, by cases q : D.vm <;> first | rfl | exact absurd q (hB.2.1.2 _)⟩, Has.of hB F1 g1, Has.of hB F2 g2, ⟨K1.1, State.isArrayOf_alike al K1.2.1, K1.2.2, by rcases hcod with ⟨-, q, -⟩ | ⟨-, q, -⟩ <;> omega⟩, hcod, fun j hj => by
    have e : cs.getD j 0 = cs[j] := by simp [List.getD_eq_getElem?_getD, hj]
    show ¬ cs.getD j 0 < 0 ∧ ¬ 65535 < cs.getD j 0
    rw [e]; exact hb _ (List.getElem_mem _)⟩
theorem same_list (cs ds : List Int32) : SameT cs.length (fun j => cs.getD j 0) ds.length (fun j => ds.getD j 0) ↔ cs = ds := by
  constructor
  · rintro ⟨e, q⟩
    refine List.ext_getElem e fun j h1 h2 => ?_
    have := q j h1
    simpa [List.getD_eq_getElem?_getD, h1, h2] using this
  · rintro rfl
    exact ⟨rfl, fun _ _ => rfl⟩
/-- **equals(Object) OF TWO SUCH STRINGS**: 1 just where the chars are the same -/
theorem eqW {p : Program} {l : Launch} {e : Env} {R : Room} {s : State} {args : Array Value} {below : List Frame} {len W : Nat} {Z : State} {a0 : Array Value} {h : Heap} (hZ : Z.Warmed39 s.vm) (hw : ∀ d ∈ wordsEq, d.before a0 Z = true) {kI : Nat} (wi : (Jvm.Cond.instantiable ST kI).before a0 Z = true)
    {x t : Addr} {kb : ClassId} {cs : List Int32} {cd N2 : Int32} {vs : List Value} (E : RoadKit.Exa Z h x ST) (V : RoadKit.Fld Z h x ST "value" "[B" (.ref t)) (C : RoadKit.Fld Z h x ST "coder" "B" (.int cd)) (K : RoadKit.Arv Z h t kb .byte N2 vs (.int 0)) (hc : CodA cs cd N2 vs) (hb : ∀ c ∈ cs, ¬ c < 0 ∧ ¬ (65535 : Int32) < c) (l2 : cs.length ≤ 4000)
    {y t' : Addr} {kb' : ClassId} {ds : List Int32} {cd' N2' : Int32} {vs' : List Value} (E' : RoadKit.Exa Z h y ST) (V' : RoadKit.Fld Z h y ST "value" "[B" (.ref t')) (C' : RoadKit.Fld Z h y ST "coder" "B" (.int cd')) (K' : RoadKit.Arv Z h t' kb' .byte N2' vs' (.int 0)) (hc' : CodA ds cd' N2' vs') (hb' : ∀ c ∈ ds, ¬ c < 0 ∧ ¬ (65535 : Int32) < c) (l2' : ds.length ≤ 4000)
    {z : Int32} (S : RoadKit.Sta Z h ST "COMPACT_STRINGS" "Z" (.int z)) (hz : ¬ z = 0) (hfr : 2 ≤ R.frames) (hlo : W + 28 ≤ R.locals) :
    Back l R p e below s args (⟨"java/lang/String", "equals", "(Ljava/lang/Object;)Z"⟩ : MethodName) len W (fun P a => a = #[.ref x, .ref y] ∧ P.U.heap = h ∧ P.cells + 0 ≤ R.cells ∧ P.slots + 0 ≤ R.slots)
      (fun P _ v B => ∃ L, (((v = some (.int 1) ∧ cs = ds) ∨ (v = some (.int 0) ∧ ¬ cs = ds)) ∧ L = [] ∧ B.U.heap = h) ∧ B.locs = P.locs ++ L ∧ B.cells = P.cells + 0 ∧ B.slots = P.slots + 0) := by
  intro m meth c P g ig mk a X hg hsize hdg hW hn hp'
  obtain ⟨rfl, rfl, r1, r2⟩ := hp'
  have al : Z.vm.Alike P.U.vm := hZ.alike.trans X.warmed.alike
  obtain ⟨A, hx⟩ := txt_of wi al E V C K hc hb l2
  obtain ⟨A', hy⟩ := txt_of wi al E' V' C' K' hc' hb' l2'
  obtain ⟨v, B, X', ⟨⟨w, hv, hh, hq⟩, hl, hk, hs⟩, st⟩ := SEq.pays x t A cd cs.length (fun j => cs.getD j 0) y t' A' cd' ds.length (fun j => ds.getD j 0) z (tabEq_of (movedEq hZ hw)) hfr hlo m meth c P g ig mk _ X hg hsize hdg hW hn ⟨r1, r2, rfl, hx, hy, sta_is al S, hz⟩
  refine ⟨v, B, X', ⟨[], ⟨?_, rfl, hh⟩, hl, hk, hs⟩, st⟩
  rcases hq with ⟨rfl, q⟩ | ⟨rfl, q⟩
  · exact Or.inl ⟨hv, (same_list cs ds).mp q⟩
  · exact Or.inr ⟨hv, fun e => q ((same_list cs ds).mpr e)⟩
end StrChars.Road
namespace StrChars
open Jvm Sem ClassFile Op Lib Jvm.Stand Jvm.Free.XT Jvm.Free.ALB Jvm.Free.JM Jvm.Free
open Jvm.Lib.Cold (StaticIs)
namespace ChN
def yN : MethodName := ⟨"java/lang/String", "charAt", "(I)C"⟩
abbrev yB : ByteArray := jdk_42_method_56_code
theorem d0 : decode yB 0 = .ok (.aload_n 0, 1) := by decide +kernel
theorem d1 : decode yB 1 = .ok (.invokevirtual 492, 3) := by decide +kernel
theorem d4 : decode yB 4 = .ok (.ifCond (.eq) 12, 3) := by decide +kernel
theorem d7 : decode yB 7 = .ok (.aload_n 0, 1) := by decide +kernel
theorem d8 : decode yB 8 = .ok (.getfield 9, 3) := by decide +kernel
theorem d11 : decode yB 11 = .ok (.iload_n 1, 1) := by decide +kernel
theorem d12 : decode yB 12 = .ok (.invokestatic 495, 3) := by decide +kernel
theorem d15 : decode yB 15 = .ok (.ireturn, 1) := by decide +kernel
def site : List Cond := [.fieldLink "java/lang/String" 9 "java/lang/String" "value" "[B", IsL.tab, LChA.tab] ++ virtW "java/lang/String" 492 "java/lang/String" IsL.yN IsL.yN ++ staticW "java/lang/String" 495 LChA.yN
def tab : Cond := tabOf yN yB 2 (some .char) site
def P (x t : Addr) (V : Cell) (n : Nat) (f : Nat → Int32) (z : Int32) (fm : Value) (i : Nat) (args : Array Value) (s : State) : Prop := args = #[.ref x, .int (Int32.ofNat i)] ∧ Txt x t V 0 n f s ∧ i < n ∧ StaticIs s "java/lang/String" "COMPACT_STRINGS" "Z" (.int z) ∧ ¬ z = 0 ∧ StaticIs s "jdk/internal/util/Preconditions" "SIOOBE_FORMATTER" "Ljava/util/function/BiFunction;" fm ∧ fm.isRef = true
def E (f : Nat → Int32) (i : Nat) (r : Option Value) (s u : State) : Prop := XT.PureE (some (.int (f i))) r s u
/-- charAt(i) of a Latin-1 String of n chars, i < n: f i -/
theorem law (l : Launch) (x t : Addr) (V : Cell) (n : Nat) (f : Nat → Int32) (z : Int32) (fm : Value) (i : Nat) : Law l yN 2 1 3 40 yB 2 (some .char) site (P x t V n f z fm i) (E f i) [] 0 0 := by
  refine Law.of_walk (plainFor_of_name (by decide +kernel)) (by decide +kernel) (by decide +kernel) (by decide) (fun _ _ h => by rw [h.1]; rfl) (fun _ U U' hal hh h => ⟨h.1, h.2.1.mv hal hh, h.2.2.1, h.2.2.2.1.there hal hh, h.2.2.2.2.1, h.2.2.2.2.2.1.there hal hh, h.2.2.2.2.2.2⟩) (fun r U U' V V' h1 hal h2 h => XT.PureE.mv r U U' V V' h1 hal h2 h) ?_
  intro p e s m args below meth c s₁ X0 hexec hbytes hml hret hlk hnm hown hh0 W hP
  obtain ⟨rfl, hx, hi, s1, hz, s3, rf⟩ := hP
  have v31 := hx.2.2.2.1.2.2.2
  have hr := hx.2.2.2.2.2 i hi
  have hx0 := hx.mv X0.warmed.alike hh0
  have c1 : Steps p.tables e below (s₁.setTop (entryFrame m #[.ref x, .int (Int32.ofNat i)] 2)) (s₁.setTop (mkF m 1 #[.val (.ref x), .val (.int (Int32.ofNat i))] [.ref x])) := Steps.trans (entry rfl) (by
    show Steps p.tables e below (s₁.setTop (mkF m 0 #[.val (.ref x), .val (.int (Int32.ofNat i))] [])) _
    refine XS.aloadN X0.here hexec rfl (hb hbytes d0) rfl rfl ?_
    exact Steps.refl _)
  obtain ⟨v2, T2, X2, E2, g2⟩ := X0.callV hexec (IsL.law l x 0 z) hown (wks W (virtW "java/lang/String" 492 "java/lang/String" IsL.yN IsL.yN)) rfl (by decide) (wk W IsL.tab) (W := 0) (Nat.le_of_ble_eq_true rfl) (Nat.le_of_ble_eq_true rfl) (Nat.le_refl _) (Nat.le_refl _) (hx0.1.fc X0.warmed.alike) hx0.1.is (g := (mkF m 1 #[.val (.ref x), .val (.int (Int32.ofNat i))] [.ref x])) rfl (by rw [hml]; rfl) c1 (argsL := []) (rest := []) rfl rfl (by show 2 * 0 + 0 ≤ _; decide) (hb hbytes d1) (⟨rfl, hx0.2.2.1, hx.2.2.2.2.1.cd, s1.there X0.warmed.alike hh0, hz⟩)
  obtain ⟨rfl, q2⟩ := E2
  have hh2 := q2.trans hh0
  have hx2 := hx.mv X2.warmed.alike hh2
  obtain ⟨-, k1, k2⟩ | ⟨k0, -⟩ := hx.2.2.2.2.1
  · have c3 : Steps p.tables e below (s₁.setTop (entryFrame m #[.ref x, .int (Int32.ofNat i)] 2)) (T2.setTop (mkF m 8 #[.val (.ref x), .val (.int (Int32.ofNat i))] [.ref x])) := Steps.trans g2 (by
      refine XS.ifNo X2.here hexec rfl (hb hbytes d4) rfl (i0_eq_f (by decide)) ?_
      refine XS.aloadN X2.here hexec rfl (hb hbytes d7) rfl rfl ?_
      exact Steps.refl _)
    obtain ⟨T4, X4, q4, st4⟩ := X2.hget hexec hown (wk W (.fieldLink "java/lang/String" 9 "java/lang/String" "value" "[B")) hx2.2.1 (g := (mkF m 8 #[.val (.ref x), .val (.int (Int32.ofNat i))] [.ref x])) rfl (rest := []) rfl (hb hbytes d8)
    have hh4 := q4.trans hh2
    have c5 : Steps p.tables e below (s₁.setTop (entryFrame m #[.ref x, .int (Int32.ofNat i)] 2)) (T4.setTop (mkF m 12 #[.val (.ref x), .val (.int (Int32.ofNat i))] [.int (Int32.ofNat i), .ref t])) := (c3.trans (st4 _ (Steps.refl _))).trans (by
      refine XS.iloadN X4.here hexec rfl (hb hbytes d11) rfl ?_
      exact Steps.refl _)
    obtain ⟨v6, T6, X6, E6, g6⟩ := X4.callS hexec (LChA.law l t V i (lo8 (f i)) fm) hown (wks W (staticW "java/lang/String" 495 LChA.yN)) (wk W LChA.tab) (W := 0) (Nat.le_of_ble_eq_true rfl) (Nat.le_of_ble_eq_true rfl) (Nat.le_refl _) (Nat.le_refl _) (g := (mkF m 12 #[.val (.ref x), .val (.int (Int32.ofNat i))] [.int (Int32.ofNat i), .ref t])) rfl (by rw [hml]; rfl) c5 (argsL := [.ref t, .int (Int32.ofNat i)]) (rest := []) rfl rfl (by show 2 * 0 + 0 ≤ _; decide) (hb hbytes d12) (⟨rfl, hx.2.2.2.1.mv X4.warmed.alike hh4, (k2 i hi).1, s3.there X4.warmed.alike hh4, rf⟩)
    obtain ⟨rfl, q6⟩ := E6
    rw [chr8_lo8 hr.1 (k2 i hi).2] at g6
    exact ⟨T6, some (.int (f i)), _, _, _, X6, rfl, rfl, rfl, (fun h => by cases h), ⟨rfl, q6.trans hh4⟩, fun fs hl => Steps.trans g6 (X6.ireturnOut hexec hret (narrow_ch hr.1 hr.2) (Or.inr (Or.inr (Or.inr (Or.inl rfl)))) (hb hbytes d15) hl)⟩
  · exact absurd k0 (by decide)
theorem pays {l : Launch} {R : Room} {p : Program} {e : Env} {below : List Frame} {s : State} {sargs : Array Value} {len W : Nat} (x t : Addr) (V : Cell) (n : Nat) (f : Nat → Int32) (z : Int32) (fm : Value) (i : Nat) (htab : tab.before sargs s = true) (hfr : 4 ≤ R.frames) (hlo : W + 53 ≤ R.locals) :
    Back l R p e below s sargs yN len W (fun A₁ a₁ => A₁.cells + 0 ≤ R.cells ∧ A₁.slots + 0 ≤ R.slots ∧ P x t V n f z fm i a₁ A₁.U) (fun A₁ _ v₁ B₁ => E f i v₁ A₁.U B₁.U ∧ B₁.locs = A₁.locs ++ [] ∧ B₁.cells = A₁.cells + 0 ∧ B₁.slots = A₁.slots + 0) :=
  (law l x t V n f z fm i).pays htab hfr (by omega)
end ChN
end StrChars
namespace StrChars.Road
open Jvm Sem ClassFile Op Lib Jvm.Stand Jvm.Free Jvm.Free.XT
open Jvm.Lib.Cold (StaticIs)
/-- the words of String.charAt(int), the Latin-1 road alone -/
abbrev wordsChN : List Jvm.Cond := [.code ChN.yN ChN.yB 2 (some .char), .initialized ST, .fieldLink ST 9 ST "value" "[B", .fieldLink ST 38 ST "COMPACT_STRINGS" "Z", .fieldLink ST 15 ST "coder" "B", .code IsL.yN IsL.yB 1 (some .boolean), .methodLink ST 492 IsL.yN, .declares IsL.yN, .selects ST IsL.yN IsL.yN, .instanceMethod IsL.yN,
  .methodLink ST 495 LChA.yN, .static LChA.yN, .code LChA.yN LChA.yB 2 (some .char), .initialized "java/lang/StringLatin1", .methodLink "java/lang/StringLatin1" 9 JO.Str_checkIndex.yN, .static JO.Str_checkIndex.yN, .code JO.Str_checkIndex.yN JO.Str_checkIndex.yB 2 none,
  .fieldLink ST 1053 "jdk/internal/util/Preconditions" "SIOOBE_FORMATTER" "Ljava/util/function/BiFunction;", .methodLink ST 1059 JC.PreCheck.yN, .static JC.PreCheck.yN, .code JC.PreCheck.yN JC.PreCheck.yB 3 (some .int), .initialized "jdk/internal/util/Preconditions"]
theorem tabChN_of {a : Array Value} {s : State} (h : ∀ w ∈ wordsChN, w.before a s = true) : ChN.tab.before a s = true := by
  have hp : JC.PreCheck.tab.before a s = true := unparts (wk h (.code JC.PreCheck.yN JC.PreCheck.yB 3 (some .int))) (wks h (.initialized JC.PreCheck.yN.cls :: JC.PreCheck.site))
  have qk := consq hp h
  have hk : JO.Str_checkIndex.tab.before a s = true := unparts (wk qk (.code JO.Str_checkIndex.yN JO.Str_checkIndex.yB 2 none)) (wks qk (.initialized JO.Str_checkIndex.yN.cls :: JO.Str_checkIndex.site))
  have ql := consq hk h
  have hl : LChA.tab.before a s = true := unparts (wk ql (.code LChA.yN LChA.yB 2 (some .char))) (wks ql (.initialized LChA.yN.cls :: LChA.site))
  have hi : IsL.tab.before a s = true := unparts (wk h (.code IsL.yN IsL.yB 1 (some .boolean))) (wks h (.initialized IsL.yN.cls :: IsL.site))
  have q := consq hi (consq hl h)
  exact unparts (wk q (.code ChN.yN ChN.yB 2 (some .char))) (wks q (.initialized ChN.yN.cls :: ChN.site))
theorem movedChN {Z s : State} {a0 args : Array Value} (hZ : Z.Warmed39 s.vm) (hw : ∀ d ∈ wordsChN, d.before a0 Z = true) : ∀ d ∈ wordsChN, d.before args s = true := fun d hd => by
  have t : ∀ d ∈ wordsChN, (d.onTables && d.keepsFace) = true := by decide +kernel
  exact RoadKit.mv hZ (hw d hd) (t d hd)
/-- **charAt(i) OF A LATIN-1 STRING**, i < n: the char -/
theorem chN {p : Program} {l : Launch} {e : Env} {R : Room} {s : State} {args : Array Value} {below : List Frame} {len W : Nat} {Z : State} {a0 : Array Value} {h : Heap} (hZ : Z.Warmed39 s.vm) (hw : ∀ d ∈ wordsChN, d.before a0 Z = true) {kI : Nat} (wi : (Jvm.Cond.instantiable ST kI).before a0 Z = true)
    {x t : Addr} {kb : ClassId} {cs : List Int32} {N2 z : Int32} {vs : List Value} {fm : Value} {i : Nat} {j : Int32} (E : RoadKit.Exa Z h x ST) (V : RoadKit.Fld Z h x ST "value" "[B" (.ref t)) (C : RoadKit.Fld Z h x ST "coder" "B" (.int 0)) (K : RoadKit.Arv Z h t kb .byte N2 vs (.int 0)) (hc : CodA cs 0 N2 vs) (hb : ∀ c ∈ cs, ¬ c < 0 ∧ ¬ (65535 : Int32) < c)
    (S : RoadKit.Sta Z h ST "COMPACT_STRINGS" "Z" (.int z)) (hz : ¬ z = 0) (F : RoadKit.Sta Z h "jdk/internal/util/Preconditions" "SIOOBE_FORMATTER" "Ljava/util/function/BiFunction;" fm) (rf : fm.isRef = true) (l2 : cs.length ≤ 4000) (hi : i < cs.length) (hj : j = Int32.ofNat i) (hfr : 4 ≤ R.frames) (hlo : W + 53 ≤ R.locals) :
    Back l R p e below s args (⟨"java/lang/String", "charAt", "(I)C"⟩ : MethodName) len W (fun P a => a = #[.ref x, .int j] ∧ P.U.heap = h ∧ P.cells + 0 ≤ R.cells ∧ P.slots + 0 ≤ R.slots)
      (fun P _ v B => ∃ L, (v = some (.int (cs.getD i 0)) ∧ L = [] ∧ B.U.heap = h) ∧ B.locs = P.locs ++ L ∧ B.cells = P.cells + 0 ∧ B.slots = P.slots + 0) := by
  subst hj
  intro m meth c P g ig mk a X hg hsize hdg hW hn hp'
  obtain ⟨rfl, rfl, r1, r2⟩ := hp'
  have al : Z.vm.Alike P.U.vm := hZ.alike.trans X.warmed.alike
  obtain ⟨A, hx⟩ := txt_of wi al E V C K hc hb l2
  obtain ⟨v, B, X', ⟨⟨hv, hh⟩, hl, hk, hs⟩, st⟩ := ChN.pays x t A cs.length (fun j => cs.getD j 0) z fm i (tabChN_of (movedChN hZ hw)) hfr hlo m meth c P g ig mk _ X hg hsize hdg hW hn ⟨r1, r2, rfl, hx, hi, sta_is al S, hz, sta_is al F, rf⟩
  exact ⟨v, B, X', ⟨[], ⟨hv, rfl, hh⟩, hl, hk, hs⟩, st⟩
/-- what backV says of its String, as the contracts of this text ask it: cs's low bytes, coder 0 -/
theorem codOf {cs : List Int32} {n : Nat} (hn : cs.length = n) (hb : ∀ c ∈ cs, ¬ 255 < c) : CodA cs 0 (Int32.ofNat n) ((cs.map lo8).map Value.int) := Or.inl ⟨rfl, by rw [hn], by simp [List.map_map, Function.comp_def], hb⟩
end StrChars.Road
end Jvm.Pilot.@@N@@

namespace Jvm.Pilot.@@N@@
open Jvm Jvm.ClassFile Sem Op Lib Jvm.Free Jvm.Stand Jvm.LawKit Jvm.RoadKit Bundle Jvm.Pilot.@@N@@.Jvm.D
abbrev Va (p : Program) (e : Env) (below : List Frame) (m : MethodId) (T : State) (pc : Nat) (ls : Array Slot) (st : List Value) (t : State) : Prop := Steps p.tables e below (T.setTop (mkF m pc ls st)) t
abbrev Ab (p : Program) (e : Env) (below : List Frame) (m : MethodId) (T : State) (a : Array Value) (n : Nat) (t : State) : Prop := Steps p.tables e below (T.setTop (entryFrame m a n)) t
theorem Da {a0 : Array Value} {Z : State} (hw : ∀ d ∈ tables_1, d.before a0 Z = true) (i : Nat) {d : Jvm.Cond} (h : tables_1[i]? = some d) : d.before a0 Z = true := hw d (List.mem_of_getElem? h)
theorem Hg {t : Term} {k : Int32} {args : Array Value} {s : State} (h : (Jvm.Cond.eq t (.int k)).value args s none s [] = some true) : t.eval args s none [] s = some (.int k) := by
  have e : (Term.int k).eval args s none [] s = some (.int k) := rfl
  simp only [Cond.value, e] at h
  cases ht : t.eval args s none [] s with
  | none => simp [ht] at h
  | some x => cases x <;> simp [ht] at h ⊢; exact h
theorem Du {t : Term} {k z : Int32} {args : Array Value} {s : State} (e : t.eval args s none [] s = some (.int z)) (h : (Jvm.Cond.not (Jvm.Cond.eq t (.int k))).value args s none s [] = some true) : ¬ (z = k) := by
  have q := not_v h
  have e2 : (Term.int k).eval args s none [] s = some (.int k) := rfl
  simp only [Cond.value, e, e2, Bool.not_true, Option.some.injEq, decide_eq_false_iff_not] at q
  exact q
theorem own_neR {t u : Term} {a b : Addr} {args : Array Value} {s : State} (ea : t.eval args s none [] s = some (.ref a)) (eb : u.eval args s none [] s = some (.ref b)) (h : (Jvm.Cond.not (Jvm.Cond.eq t u)).value args s none s [] = some true) : ¬ (a = b) := by
  have q := not_v h
  rw [eq_R ea eb rfl rfl] at q
  intro e
  rw [e] at q
  simp at q
theorem own_eqJ {t : Term} {k : Int64} {args : Array Value} {s : State} (h : (Jvm.Cond.eq t (.long k)).value args s none s [] = some true) : t.eval args s none [] s = some (.long k) := by
  have e : (Term.long k).eval args s none [] s = some (.long k) := rfl
  simp only [Cond.value, e] at h
  cases ht : t.eval args s none [] s with
  | none => simp [ht] at h
  | some x => cases x <;> simp [ht] at h ⊢; exact h
theorem Is {t : Term} {n : Int32} {a : Addr} {cl : Cell} {ty : FieldType} {args : Array Value} {s : State} (ev : t.eval args s none [] s = some (.ref a)) (A : Arr s s.heap a cl ty) (h : (Jvm.Cond.eq (.length t) (.int n)).value args s none s [] = some true) : cl.slots.size < 2 ^ 31 ∧ cl.slots.size.toInt32 = n := by
  have q := Hg h
  have hA := A.fin (Vm.Alike.refl _)
  simp only [Term.eval, ev, hA, Option.bind_eq_bind, Option.bind_some] at q
  split at q
  · rename_i hl
    exact ⟨hl, Value.int.inj (Option.some.inj q)⟩
  · cases q
theorem He {t : Term} {j : Int32} {a : Addr} {v : Value} {cl : Cell} {ty : FieldType} {args : Array Value} {s : State} (ev : t.eval args s none [] s = some (.ref a)) (A : Arr s s.heap a cl ty) (h : (Term.elem t (.int j)).eval args s none [] s = some v) (i : Nat) (hi : j.toNatClampNeg = i) : cl.slots[i]? = some v := by
  have q := (elem_in h ev (rfl : (Term.int j).eval args s none [] s = some (.int j)) A.1).2
  rw [hi] at q; exact q
/-- an array as it stood at the start, that may be cloned -/
def Bj (Z : State) (h : Heap) (a : Addr) (ty : FieldType) (n : Int32) (vs : List Value) (d : Value) : Prop := ∃ c : Cell, Arr Z h a c ty ∧ FitC Z c ∧ c.slots.size = n.toNatClampNeg ∧ ¬ n < 0 ∧ Has c vs d ∧ ∀ i, i < c.slots.size → fits ty (vs.getD i d) = true
theorem Bj.ext {Z : State} {h h' : Heap} {a : Addr} {ty : FieldType} {n : Int32} {vs : List Value} {d : Value} (F : Bj Z h a ty n vs d) (E : Ext h h') : Bj Z h' a ty n vs d := by
  obtain ⟨c, A, r⟩ := F; exact ⟨c, A.ext E, r⟩
theorem Bj.start {Z : State} {a : Addr} {cl : Cell} {ty : FieldType} {z : Int32} {vs : List Value} {dv : Value} (hf : Fit Z) (A : Arr Z Z.heap a cl ty) (q : cl.slots.size < 2 ^ 31 ∧ cl.slots.size.toInt32 = z) (hz : ¬ z < 0) (hl : z.toNatClampNeg = vs.length) (H : HasL cl 0 vs) : Bj Z Z.heap a ty z vs dv := by
  have S : cl.slots.size = z.toNatClampNeg := by rw [← q.2]; simp only [Int32.toNatClampNeg, len_toInt q.1]; rfl
  have H' : Has cl vs dv := fun j hj => by have := HasL.at (dv := dv) vs 0 H j (by rw [← hl, ← S]; exact hj); rwa [Nat.zero_add] at this
  refine ⟨cl, A, FitC.start hf A, S, hz, H', fun j hj => ?_⟩
  have e1 : (Nat.toInt32 j).toNatClampNeg = j := by simp only [Int32.toNatClampNeg, len_toInt (Nat.lt_trans hj q.1)]; rfl
  exact elem_fits (j := Nat.toInt32 j) hf A (idx_in hj q.1) (by rw [e1]; exact H' j hj)
theorem Bj.arv {Z : State} {h : Heap} {a : Addr} {ty : FieldType} {n : Int32} {vs : List Value} {d : Value} (F : Bj Z h a ty n vs d) : ∃ k, Arv Z h a k ty n vs d := by
  obtain ⟨c, A, -, r⟩ := F; exact ⟨c.cls, c, A, rfl, r⟩
theorem Vs {t u : Term} {b : Addr} {args : Array Value} {s : State} (h : (Jvm.Cond.eq t u).value args s none s [] = some true) (e : u.eval args s none [] s = some (.ref b)) : t.eval args s none [] s = some (.ref b) := by
  simp only [Cond.value, e] at h
  cases ht : t.eval args s none [] s with
  | none => simp [ht] at h
  | some x => cases x <;> simp [ht] at h ⊢; exact h
theorem own_dup2L {tb : Tables} [Ours tb] {e : Env} {below : List Frame} {T target : State} {m : MethodId} {c : Code} {g : JFrame} (h : At T m c below) (hx : tb.exec = Jvm.exec) (hg : g.method = m) {x : Int64} {rest : List Value} (hd : decode c.code g.pc = .ok (.dup2, 1)) (hs : g.stack = .long x :: rest) (hr : Steps tb e below (T.setTop { g with pc := g.pc + 1, stack := .long x :: .long x :: rest }) target) : Steps tb e below (T.setTop g) target := by
  subst hg
  jvm_step h [h.top, hx, hd, hs, Value.category]
  exact hr
theorem Hm {Z : State} {a0 : Array Value} (hw : ∀ d ∈ tables_1, d.before a0 Z = true) : ∀ d ∈ StrChars.Road.words, d.before a0 Z = true := fun d hd => hw d ((by decide +kernel : ∀ d ∈ StrChars.Road.words, d ∈ tables_1) d hd)
theorem Gj {Z : State} {a0 : Array Value} (hw : ∀ d ∈ tables_1, d.before a0 Z = true) : ∀ d ∈ StrChars.Road.wordsEq, d.before a0 Z = true := fun d hd => hw d ((by decide +kernel : ∀ d ∈ StrChars.Road.wordsEq, d ∈ tables_1) d hd)
theorem Bu {Z : State} {a0 : Array Value} (hw : ∀ d ∈ tables_1, d.before a0 Z = true) : ∀ d ∈ StrChars.Road.wordsLen, d.before a0 Z = true := fun d hd => hw d ((by decide +kernel : ∀ d ∈ StrChars.Road.wordsLen, d ∈ tables_1) d hd)
theorem Gu {Z : State} {a0 : Array Value} (hw : ∀ d ∈ tables_1, d.before a0 Z = true) : ∀ d ∈ StrChars.Road.wordsChN, d.before a0 Z = true := fun d hd => hw d ((by decide +kernel : ∀ d ∈ StrChars.Road.wordsChN, d ∈ tables_1) d hd)
theorem Ie (cs : List Int32) (h : ∀ c ∈ cs, ¬ c < 0 ∧ ¬ (255 : Int32) < c) : ∀ c ∈ cs, ¬ c < 0 ∧ ¬ (65535 : Int32) < c := fun c hc => ⟨(h c hc).1, fun q => (h c hc).2 (by rw [Int32.lt_iff_toInt_lt] at q ⊢; have e1 : (65535 : Int32).toInt = 65535 := rfl; have e2 : (255 : Int32).toInt = 255 := rfl; omega)⟩
theorem Zi (x : Int32) : ¬ ((x &&& (255 : Int32)).toUInt32.toUInt16.toUInt32.toInt32) < 0 ∧ ¬ (255 : Int32) < ((x &&& (255 : Int32)).toUInt32.toUInt16.toUInt32.toInt32) := by
  rw [i2c_mask]
  have e := c_mask x (255 : Int32) 8 (by decide) (by decide)
  have e0 : (0 : Int32).toInt = 0 := by decide
  have e1 : (255 : Int32).toInt = 255 := by decide
  constructor
  · rw [Int32.lt_iff_toInt_lt, e, e0]; omega
  · rw [Int32.lt_iff_toInt_lt, e, e1]; omega
theorem Bl (x : Int32) : nar .char ((x &&& (255 : Int32)).toUInt32.toUInt16.toUInt32.toInt32) = (x &&& (255 : Int32)).toUInt32.toUInt16.toUInt32.toInt32 := by
  show ((x &&& (255 : Int32)).toUInt32.toUInt16.toUInt32.toInt32).toUInt32.toUInt16.toUInt32.toInt32 = _
  rw [i2c_mask, i2c_mask]
theorem Ws {i : Nat} (h : i ≤ 4000) : (Int32.ofNat i).toInt = i := Int32.toInt_ofNat_of_lt (by omega)
theorem own_ltn {cs : List Int32} {j : Int32} (h2 : cs.length ≤ 4000) (h : j < Int32.ofNat cs.length) (i : Nat) (hj : j.toInt = i) : i < cs.length := by
  rw [Int32.lt_iff_toInt_lt, Ws h2, hj] at h
  omega
theorem Lt {cs : List Int32} (h : ∀ c ∈ cs, ¬ c < 0 ∧ ¬ (255 : Int32) < c) (i : Nat) : ¬ (cs.getD i 0) < 0 ∧ ¬ (255 : Int32) < (cs.getD i 0) := by
  by_cases hi : i < cs.length
  · have e : cs.getD i 0 = cs[i] := by simp [List.getD_eq_getElem?_getD, hi]
    rw [e]; exact h _ (List.getElem_mem _)
  · have e : cs.getD i 0 = 0 := by simp [List.getD_eq_getElem?_getD, Nat.le_of_not_lt hi]
    rw [e]; decide
theorem Aa {x : Int32} (h : ¬ x < 0 ∧ ¬ (255 : Int32) < x) : nar .char x = x := by
  show x.toUInt32.toUInt16.toUInt32.toInt32 = x
  have e := Zi x
  have q := Bl x
  have m : (x &&& (255 : Int32)) = x := by
    have a := c_mask x (255 : Int32) 8 (by decide) (by decide)
    have e0 : (0 : Int32).toInt = 0 := by decide
    have e1 : (255 : Int32).toInt = 255 := by decide
    rw [Int32.lt_iff_toInt_lt, Int32.lt_iff_toInt_lt, e0, e1] at h
    apply Int32.toInt_inj.mp
    rw [a]; omega
  have z := i2c_mask x
  rw [m] at z
  exact z
theorem Kt (x : Int64) : ¬ (((x &&& (255 : Int64)).toInt32).toUInt32.toUInt16.toUInt32.toInt32) < 0 ∧ ¬ (255 : Int32) < (((x &&& (255 : Int64)).toInt32).toUInt32.toUInt16.toUInt32.toInt32) := by
  have e : (x &&& (255 : Int64)).toInt32 = (x.toInt32 &&& (255 : Int32)) := by
    apply Int32.toBitVec_inj.mp
    show (x.toBitVec &&& (255 : Int64).toBitVec).signExtend 32 = x.toBitVec.signExtend 32 &&& (255 : Int32).toBitVec
    apply BitVec.eq_of_getLsbD_eq
    intro i hi
    simp [BitVec.getLsbD_signExtend, hi, Nat.lt_trans hi (by decide : 32 < 64)]
  rw [e]; exact Zi _
def EV (Z : State) (Ra : Addr) (Ya : Addr) (Pa : Addr) (Wa : Addr) (Ma : Addr) (Ga : Addr) (Ka : Addr) (Ba : Addr) (Ua : Addr) (Ha : Addr) (La : Int32) (Ia : Value) : Prop := Sta Z Z.heap "com/example/kwota/kwota/AdjustmentRequest$State" "PENDING" "Lcom/example/kwota/kwota/AdjustmentRequest$State;" (.ref Ra) ∧ Exa Z Z.heap Ra "com/example/kwota/kwota/AdjustmentRequest$State" ∧ Sta Z Z.heap "com/example/kwota/kwota/AdjustmentRequest$State" "$VALUES" "[Lcom/example/kwota/kwota/AdjustmentRequest$State;" (.ref Ya) ∧ Exa Z Z.heap Ya "[Lcom/example/kwota/kwota/AdjustmentRequest$State;" ∧ Sta Z Z.heap "com/example/kwota/kwota/AdjustmentRequest$State" "APPROVED" "Lcom/example/kwota/kwota/AdjustmentRequest$State;" (.ref Pa) ∧ Exa Z Z.heap Pa "com/example/kwota/kwota/AdjustmentRequest$State" ∧ Sta Z Z.heap "com/example/kwota/kwota/AdjustmentRequest$State" "DENIED" "Lcom/example/kwota/kwota/AdjustmentRequest$State;" (.ref Wa) ∧ Exa Z Z.heap Wa "com/example/kwota/kwota/AdjustmentRequest$State" ∧ Fld Z Z.heap Ra "com/example/kwota/kwota/AdjustmentRequest$State" "word" "Ljava/lang/String;" (.ref Ma) ∧ Exa Z Z.heap Ma "java/lang/String" ∧ Fld Z Z.heap Ma "java/lang/String" "coder" "B" (.int 0) ∧ Fld Z Z.heap Ma "java/lang/String" "value" "[B" (.ref Ga) ∧ Fld Z Z.heap Pa "com/example/kwota/kwota/AdjustmentRequest$State" "word" "Ljava/lang/String;" (.ref Ka) ∧ Exa Z Z.heap Ka "java/lang/String" ∧ Fld Z Z.heap Ka "java/lang/String" "coder" "B" (.int 0) ∧ Fld Z Z.heap Ka "java/lang/String" "value" "[B" (.ref Ba) ∧ Fld Z Z.heap Wa "com/example/kwota/kwota/AdjustmentRequest$State" "word" "Ljava/lang/String;" (.ref Ua) ∧ Exa Z Z.heap Ua "java/lang/String" ∧ Fld Z Z.heap Ua "java/lang/String" "coder" "B" (.int 0) ∧ Fld Z Z.heap Ua "java/lang/String" "value" "[B" (.ref Ha) ∧ Sta Z Z.heap "java/lang/String" "COMPACT_STRINGS" "Z" (.int La) ∧ ¬ (La = (0 : Int32)) ∧ Sta Z Z.heap "jdk/internal/util/Preconditions" "SIOOBE_FORMATTER" "Ljava/util/function/BiFunction;" Ia ∧ Ia.isRef = true ∧ Bj Z Z.heap Ya (.object "com/example/kwota/kwota/AdjustmentRequest$State") (3 : Int32) [(.ref Ra), (.ref Pa), (.ref Wa)] .null ∧ Bj Z Z.heap Ga .byte (7 : Int32) [(.int 112), (.int 101), (.int 110), (.int 100), (.int 105), (.int 110), (.int 103)] (.int 0) ∧ Bj Z Z.heap Ba .byte (8 : Int32) [(.int 97), (.int 112), (.int 112), (.int 114), (.int 111), (.int 118), (.int 101), (.int 100)] (.int 0) ∧ Bj Z Z.heap Ha .byte (6 : Int32) [(.int 100), (.int 101), (.int 110), (.int 105), (.int 101), (.int 100)] (.int 0)
def Ub : List (String × Nat) := [("com/example/kwota/kwota/StateNamedPinLaw", 7), ("com/example/kwota/kwota/StateNamedPinLaw", 9), ("com/example/kwota/kwota/StateNamedPinLaw", 11), ("com/example/kwota/kwota/StateNamedPinLaw", 13), ("java/lang/String", 7)]
theorem Vd {Z : State} {a0 : Array Value} (hw : ∀ d ∈ tables_1, d.before a0 Z = true) : EW Z a0 Ub := (EW.cons (Da hw 6 rfl) (by decide) (EW.cons (Da hw 109 rfl) (by decide) (EW.cons (Da hw 111 rfl) (by decide) (EW.cons (Da hw 112 rfl) (by decide) (EW.cons (Da hw 114 rfl) (by decide) EW.nil)))))
theorem Hu {cs : List Int32} {j : Int32} (h2 : cs.length ≤ 4000) (h : j < Int32.ofNat cs.length) (hj : 0 ≤ j.toInt ∧ j.toInt ≤ 8) : j.toNatClampNeg < cs.length := by
  rw [Int32.lt_iff_toInt_lt, Ws h2] at h
  simp only [Int32.toNatClampNeg]
  omega
theorem Iu {j : Int32} (hj : 0 ≤ j.toInt ∧ j.toInt ≤ 8) : j = Int32.ofNat j.toNatClampNeg := by
  apply Int32.toInt_inj.mp
  have e : j.toNatClampNeg = j.toInt.toNat := rfl
  rw [Ws (by omega), e]
  omega
theorem ef_at (m : MethodId) (x0 : Int32) (x1 : Int32) (x2 : Int64)  : entryFrame m #[(.int x0), (.int x1), (.long x2)] 5 = mkF m 0 #[.val (.int x0), .val (.int x1), .val (.long x2), .second, .unset] [] := by first | (simp [entryFrame, mkF, argsToLocals, Value.category]; done) | rfl
theorem Kq : decode method_2_code 31 = .ok (.astore 4, 2) := by decide +kernel
theorem Lq : decode method_2_code 33 = .ok (.iload_n 1, 1) := by decide +kernel
theorem Mq : decode method_2_code 34 = .ok (.aload 4, 2) := by decide +kernel
theorem Pq : decode method_2_code 36 = .ok (.invokevirtual 15, 3) := by decide +kernel
theorem pd___I : parseMethodDescriptor "()I" = some ⟨[], some .int⟩ := by decide +kernel
abbrev Mt : MethodName := ⟨"java/lang/String", "length", "()I"⟩
theorem Um : decode method_2_code 39 = .ok (.if_icmp .ge 10, 3) := by decide +kernel
theorem Rq : decode method_2_code 42 = .ok (.aload 4, 2) := by decide +kernel
theorem Uq : decode method_2_code 44 = .ok (.iload_n 1, 1) := by decide +kernel
theorem Vq : decode method_2_code 45 = .ok (.invokevirtual 21, 3) := by decide +kernel
theorem Ku : parseMethodDescriptor "(I)C" = some ⟨[.int], some .char⟩ := by decide +kernel
abbrev Rt : MethodName := ⟨"java/lang/String", "charAt", "(I)C"⟩
theorem Wq : decode method_2_code 48 = .ok (.ireturn, 1) := by decide +kernel
theorem Yq : decode method_2_code 49 = .ok (.lload_n 2, 1) := by decide +kernel
theorem Zq : decode method_2_code 50 = .ok (.iload_n 1, 1) := by decide +kernel
theorem Ar : decode method_2_code 51 = .ok (.bipush 7, 2) := by decide +kernel
theorem Br : decode method_2_code 53 = .ok (.iand, 1) := by decide +kernel
theorem Dr : decode method_2_code 54 = .ok (.bipush 8, 2) := by decide +kernel
theorem Gr : decode method_2_code 56 = .ok (.imul, 1) := by decide +kernel
theorem Hr : decode method_2_code 57 = .ok (.lushr, 1) := by decide +kernel
theorem Ir : decode method_2_code 58 = .ok (.ldc2_w 25, 3) := by decide +kernel
theorem Kr : decode method_2_code 61 = .ok (.land, 1) := by decide +kernel
theorem Lr : decode method_2_code 62 = .ok (.l2i, 1) := by decide +kernel
theorem Mr : decode method_2_code 63 = .ok (.i2c, 1) := by decide +kernel
theorem Pr : decode method_2_code 64 = .ok (.ireturn, 1) := by decide +kernel
theorem Ms : decode method_2_code 0 = .ok (.iload_n 0, 1) := by decide +kernel
theorem Mo : decode method_2_code 1 = .ok (.ifCond .ne 8, 3) := by decide +kernel
theorem Im {Z : State} {a0 : Array Value} (hw : ∀ d ∈ tables_1, d.before a0 Z = true) : ∀ d ∈ Bundle.stringAtoms, d.before a0 Z = true := fun d hd => hw d ((by decide +kernel : ∀ d ∈ Bundle.stringAtoms, d ∈ tables_1) d hd)
theorem Ps : decode method_2_code 4 = .ok (.ldc 7, 2) := by decide +kernel
theorem Mi : ∀ c ∈ ([(112 : Int32), (101 : Int32), (110 : Int32), (100 : Int32), (105 : Int32), (110 : Int32), (103 : Int32)] : List Int32), ¬ c < 0 ∧ ¬ (255 : Int32) < c := by decide
theorem Hj : StrChars.Road.CodA ([(112 : Int32), (101 : Int32), (110 : Int32), (100 : Int32), (105 : Int32), (110 : Int32), (103 : Int32)] : List Int32) 0 (7 : Int32) [(.int 112), (.int 101), (.int 110), (.int 100), (.int 105), (.int 110), (.int 103)] := StrChars.Road.codOf (cs := ([(112 : Int32), (101 : Int32), (110 : Int32), (100 : Int32), (105 : Int32), (110 : Int32), (103 : Int32)] : List Int32)) (n := 7) rfl (fun c hc => (Mi c hc).2)
theorem Rs : decode method_2_code 6 = .ok (.goto 25, 3) := by decide +kernel
theorem Us : decode method_2_code 9 = .ok (.iload_n 0, 1) := by decide +kernel
theorem Rr : decode method_2_code 10 = .ok (.iconst 1, 1) := by decide +kernel
theorem Wm : decode method_2_code 11 = .ok (.if_icmp .ne 8, 3) := by decide +kernel
theorem Ur : decode method_2_code 14 = .ok (.ldc 9, 2) := by decide +kernel
theorem Aj : ∀ c ∈ ([(97 : Int32), (112 : Int32), (112 : Int32), (114 : Int32), (111 : Int32), (118 : Int32), (101 : Int32), (100 : Int32)] : List Int32), ¬ c < 0 ∧ ¬ (255 : Int32) < c := by decide
theorem Uj : StrChars.Road.CodA ([(97 : Int32), (112 : Int32), (112 : Int32), (114 : Int32), (111 : Int32), (118 : Int32), (101 : Int32), (100 : Int32)] : List Int32) 0 (8 : Int32) [(.int 97), (.int 112), (.int 112), (.int 114), (.int 111), (.int 118), (.int 101), (.int 100)] := StrChars.Road.codOf (cs := ([(97 : Int32), (112 : Int32), (112 : Int32), (114 : Int32), (111 : Int32), (118 : Int32), (101 : Int32), (100 : Int32)] : List Int32)) (n := 8) rfl (fun c hc => (Aj c hc).2)
theorem Vr : decode method_2_code 16 = .ok (.goto 15, 3) := by decide +kernel
theorem Wr : decode method_2_code 19 = .ok (.iload_n 0, 1) := by decide +kernel
theorem Yr : decode method_2_code 20 = .ok (.iconst 2, 1) := by decide +kernel
theorem Ym : decode method_2_code 21 = .ok (.if_icmp .ne 8, 3) := by decide +kernel
theorem Zr : decode method_2_code 24 = .ok (.ldc 11, 2) := by decide +kernel
theorem Pk : ∀ c ∈ ([(100 : Int32), (101 : Int32), (110 : Int32), (105 : Int32), (101 : Int32), (100 : Int32)] : List Int32), ¬ c < 0 ∧ ¬ (255 : Int32) < c := by decide
theorem Ll : StrChars.Road.CodA ([(100 : Int32), (101 : Int32), (110 : Int32), (105 : Int32), (101 : Int32), (100 : Int32)] : List Int32) 0 (6 : Int32) [(.int 100), (.int 101), (.int 110), (.int 105), (.int 101), (.int 100)] := StrChars.Road.codOf (cs := ([(100 : Int32), (101 : Int32), (110 : Int32), (105 : Int32), (101 : Int32), (100 : Int32)] : List Int32)) (n := 6) rfl (fun c hc => (Pk c hc).2)
theorem As : decode method_2_code 26 = .ok (.goto 5, 3) := by decide +kernel
theorem Bs : decode method_2_code 29 = .ok (.ldc 13, 2) := by decide +kernel
theorem Ds : ∀ c ∈ ([] : List Int32), ¬ c < 0 ∧ ¬ (255 : Int32) < c := by decide
theorem Zs : StrChars.Road.CodA ([] : List Int32) 0 (0 : Int32) [] := StrChars.Road.codOf (cs := ([] : List Int32)) (n := 0) rfl (fun c hc => (Ds c hc).2)
theorem Pg : plainName "com/example/kwota/kwota/StateNamedPinLaw" = true := by first | (simp [plainName, overriddenIn]; done) | decide +kernel
abbrev Vl : MethodName := ⟨"com/example/kwota/kwota/StateNamedPinLaw", "at", "(IIJ)C"⟩
def Q_at (Z : State) (k0 : Int32) (i0 : Int32) (j0 : Int64) (Ra : Addr) (Ya : Addr) (Pa : Addr) (Wa : Addr) (Ma : Addr) (Ga : Addr) (Ka : Addr) (Ba : Addr) (Ua : Addr) (Ha : Addr) (La : Int32) (Ia : Value) (h0 : Heap) (n0 : Nat) (v : Option Value) (h : Heap) (L : List Loc) : Prop := ∃ (r : Int32), v = some (.int r) ∧ Fr n0 L ∧ Old Z n0 h ∧ Keep h0 h [] ∧ (¬ r < 0 ∧ ¬ (255 : Int32) < r)
set_option maxRecDepth 65536 in
set_option maxHeartbeats 40000000 in
theorem Ro (l : Launch) (Z : State) (a0 : Array Value) (hw : ∀ d ∈ tables_1, d.before a0 Z = true) (ws : List Jvm.Cond) (k0 : Int32) (i0 : Int32) (j0 : Int64) (Ra : Addr) (Ya : Addr) (Pa : Addr) (Wa : Addr) (Ma : Addr) (Ga : Addr) (Ka : Addr) (Ba : Addr) (Ua : Addr) (Ha : Addr) (La : Int32) (Ia : Value) (h0 : Heap) (n0 : Nat) (O0 : Old Z n0 h0) (hE : EV Z Ra Ya Pa Wa Ma Ga Ka Ba Ua Ha La Ia) (hi0 : 0 ≤ i0.toInt ∧ i0.toInt ≤ 8) :
    MetFree l Vl (head1 (Jvm.Cond.code Vl method_2_code 5 (some .char) :: ws) ({ frames := 4, cells := 2, slots := 36, locals := 53 } : Room)) (fun a U => a = #[(.int k0), (.int i0), (.long j0)] ∧ Z.Warmed39 U.vm ∧ U.heap = h0 ∧ CHv Z Ub U.vm h0) (fun _ _ _ _ _ => True) (fun _ U o U' => ∃ v L, o = .returned v ∧ Q_at Z k0 i0 j0 Ra Ya Pa Wa Ma Ga Ka Ba Ua Ha La Ia h0 n0 v U'.heap L ∧ CHr Z Ub U.vm U.heap U'.vm U'.heap ∧ ReturnedEndW U o U' L ({ frames := 4, cells := 2, slots := 36, locals := 53 } : Room).cells ({ frames := 4, cells := 2, slots := 36, locals := 53 } : Room).slots) := by
  refine MetFree.of_bodySF (plainFor_of_name Pg) hisR ?_
  intro p e s m args below meth c s₁ Bd hml0 hP hK
  obtain ⟨rfl, hZ, hh, hCH⟩ := hP
  have hx := Bd.exec
  have hby := Bd.bytes
  have hml : c.maxLocals = 5 := hml0
  have hown : s.vm.findClass "com/example/kwota/kwota/StateNamedPinLaw" = some m.cls := findClass_of_methodNamed Bd.named
  have hnm := (name_of_methodNamed Bd.named Bd.method).1
  have X00 : Stand p l e ({ frames := 4, cells := 2, slots := 36, locals := 53 } : Room) s m #[(.int k0), (.int i0), (.long j0)] below meth c s₁ [] 0 0 := Stand.of_body Bd
  have e00 : s₁.heap = h0 := by rw [← hh, Bd.state]; rfl
  have N00 := Fr.nil n0
  refine Classical.byContradiction fun hNG => ?_
  have K00 := Keep.refl h0 []
  have k00 : ∀ t, Va p e below m s₁ 0 #[.val (.int k0), .val (.int i0), .val (.long j0), .second, .unset] [] t → Ab p e below m s₁ #[(.int k0), (.int i0), (.long j0)] 5 t := fun t k => castTop (ef_at m k0 i0 j0 ) k
  have hS : s.Since s.vm 0 := (State.WarmedH.refl s).since 0
  have X00 : Stand p l e ({ frames := 4, cells := 2, slots := 36, locals := 53 } : Room) (s.setVm s.vm) m #[(.int k0), (.int i0), (.long j0)] below meth c s₁ [] 0 0 := X00
  have hZ : Z.Warmed39 (s.setVm s.vm).vm := hZ
  have hown : (s.setVm s.vm).vm.findClass "com/example/kwota/kwota/StateNamedPinLaw" = some m.cls := hown
  have CR0 : CHr Z Ub s.vm h0 s.vm h0 := CHr.refl hCH
  obtain ⟨Hh, Mh, Ih, Kh, Rg, Gh, Ki, Li, Dd, Zb, Lb, Mb, Ad, Bc, Pb, Rb, Pd, Hd, Dc, Gc, Bb, Za, Zc, Yc, Lh, Gb, Db, Hb⟩ := (id hE : EV Z Ra Ya Pa Wa Ma Ga Ka Ba Ua Ha La Ia)
  obtain ⟨kw_PENDING_word, Aw_PENDING_word⟩ := Gb.arv
  obtain ⟨kw_APPROVED_word, Aw_APPROVED_word⟩ := Db.arv
  obtain ⟨kw_DENIED_word, Aw_DENIED_word⟩ := Hb.arv
  have J10 : ∀ (vm10 : Vm) (kk10 : Nat) (T10 : State) (locs10 : List Loc) (h10 : Heap) (js : Addr) (jt : Addr) (jk : ClassId) (jz : Int32) (jvs : List Value) (jcs : List Int32) (hS : s.Since vm10 kk10) (hk10 : kk10 ≤ h10.size) (hZ : Z.Warmed39 (s.setVm vm10).vm) (hown : (s.setVm vm10).vm.findClass "com/example/kwota/kwota/StateNamedPinLaw" = some m.cls) (CR10 : CHr Z Ub s.vm h0 vm10 h10) (X10 : Stand p l e ({ frames := 4, cells := 2, slots := 36, locals := 53 } : Room) (s.setVm vm10) m #[(.int k0), (.int i0), (.long j0)] below meth c T10 locs10 2 36) (e10 : T10.heap = h10) (N10 : Fr n0 locs10) (O10 : Old Z n0 h10) (K10 : Keep h0 h10 []) (G10_0 : Exa Z h10 js "java/lang/String") (G10_1 : Fld Z h10 js "java/lang/String" "coder" "B" (.int 0)) (G10_2 : Fld Z h10 js "java/lang/String" "value" "[B" (.ref jt)) (G10_3 : Arv Z h10 jt jk .byte jz jvs (.int 0)) (jcd : StrChars.Road.CodA jcs 0 jz jvs) (jbd : ∀ c ∈ jcs, ¬ c < 0 ∧ ¬ (255 : Int32) < c) (jl2 : jcs.length ≤ 4000) (k10 : ∀ t, Va p e below m T10 31 #[.val (.int k0), .val (.int i0), .val (.long j0), .second, .unset] [(.ref js)] t → Ab p e below m s₁ #[(.int k0), (.int i0), (.long j0)] 5 t), False := by
    intro vm10 kk10 T10 locs10 h10 js jt jk jz jvs jcs hS hk10 hZ hown CR10 X10 e10 N10 O10 K10 G10_0 G10_1 G10_2 G10_3 jcd jbd jl2 k10
    obtain ⟨cq11, kq11, q11a, q11b, q11c⟩ := isOf hZ e10 G10_0
    obtain ⟨_, _, ⟨T11, L11, k11, n11⟩, -, X11, ⟨Lc11, hQ11, l11, y11, z11⟩, st11⟩ := X10.virtualBack hx (y := Mt) (z := Mt) hown (mvT hZ (Da hw 14 rfl)) (mvT hZ (Da hw 15 rfl)) (notFace_of_selects (args := #[]) (mvT hZ (Da hw 17 rfl))) (mvT hZ (Da hw 17 rfl)) (mvT hZ (Da hw 16 rfl)) (by decide) (StrChars.Road.lenW (W := 1) hZ (Bu hw) (kI := 4) (Da hw 8 rfl) G10_0 G10_2 G10_1 G10_3 jcd (Ie _ jbd) (Bb.ext O10.2) Za jl2 (by decide) (by decide)) q11a q11c (g := (mkF m 36 #[.val (.int k0), .val (.int i0), .val (.long j0), .second, .val (.ref js)] [(.ref js), (.int i0)])) rfl (by rw [hml]; rfl) (Steps.refl _) (argsL := []) (rest := [(.int i0)]) (lenOf pd___I rfl) rfl (by show 2 * 0 + _ ≤ _; exact Nat.le_of_eq rfl) (hb hby Pq) (fun _ _ => ⟨rfl, e10, (by decide : 2 + 0 ≤ _), (by decide : 36 + 0 ≤ _)⟩)
    dsimp only [Pt.U, Pt.locs, Pt.cells, Pt.slots] at X11 l11 y11 z11 st11 hQ11
    subst l11 y11 z11
    obtain ⟨rfl, rfl, hp11⟩ := hQ11
    have N11q : Fr n0 ([] : List Loc) := Fr.nil n0
    have N11 := Fr.app N10 N11q
    have k12 : ∀ t, Va p e below m T11 39 #[.val (.int k0), .val (.int i0), .val (.long j0), .second, .val (.ref js)] [(.int (Int32.ofNat jcs.length)), (.int i0)] t → Ab p e below m s₁ #[(.int k0), (.int i0), (.long j0)] 5 t := by
      intro t k
      refine k10 t ?_
      refine XS.astore X10.here hx rfl (hb hby Kq) rfl rfl (l' := #[.val (.int k0), .val (.int i0), .val (.long j0), .second, .val (.ref js)]) rfl ?_
      refine XS.iloadN X10.here hx rfl (hb hby Lq) rfl ?_
      refine XS.aload X10.here hx rfl (hb hby Mq) rfl rfl ?_
      refine st11.trans ?_
      exact k
    by_cases hc13 : i0 < (Int32.ofNat jcs.length)
    · obtain ⟨cq14, kq14, q14a, q14b, q14c⟩ := isOf hZ hp11 G10_0
      obtain ⟨_, _, ⟨T14, L14, k14, n14⟩, -, X14, ⟨Lc14, hQ14, l14, y14, z14⟩, st14⟩ := X11.virtualBack hx (y := Rt) (z := Rt) hown (mvT hZ (Da hw 27 rfl)) (mvT hZ (Da hw 28 rfl)) (notFace_of_selects (args := #[]) (mvT hZ (Da hw 30 rfl))) (mvT hZ (Da hw 30 rfl)) (mvT hZ (Da hw 29 rfl)) (by decide) (StrChars.Road.chN (W := 0) hZ (Gu hw) (kI := 4) (Da hw 8 rfl) (i := i0.toNatClampNeg) G10_0 G10_2 G10_1 G10_3 jcd (Ie _ jbd) (Bb.ext O10.2) Za (Zc.ext O10.2) Yc jl2 (Hu jl2 hc13 hi0) (Iu hi0) (by decide) (by decide)) q14a q14c (g := (mkF m 45 #[.val (.int k0), .val (.int i0), .val (.long j0), .second, .val (.ref js)] [(.int i0), (.ref js)])) rfl (by rw [hml]; rfl) (Steps.refl _) (argsL := [(.int i0)]) (rest := []) (lenOf Ku rfl) rfl (by show 2 * 0 + _ ≤ _; exact Nat.le_of_eq rfl) (hb hby Vq) (fun _ _ => ⟨rfl, hp11, (by decide : 2 + 0 ≤ _), (by decide : 36 + 0 ≤ _)⟩)
      dsimp only [Pt.U, Pt.locs, Pt.cells, Pt.slots] at X14 l14 y14 z14 st14 hQ14
      subst l14 y14 z14
      obtain ⟨rfl, rfl, hp14⟩ := hQ14
      have N14q : Fr n0 ([] : List Loc) := Fr.nil n0
      have N14 := Fr.app N11 N14q
      have k15 : ∀ t, Va p e below m T14 48 #[.val (.int k0), .val (.int i0), .val (.long j0), .second, .val (.ref js)] [(.int (jcs.getD i0.toNatClampNeg 0))] t → Ab p e below m s₁ #[(.int k0), (.int i0), (.long j0)] 5 t := by
        intro t k
        refine k12 t ?_
        refine XS.icmpNo X11.here hx rfl (hb hby Um) rfl (tlt hc13).2.1 ?_
        refine XS.aload X11.here hx rfl (hb hby Rq) rfl rfl ?_
        refine XS.iloadN X11.here hx rfl (hb hby Uq) rfl ?_
        refine st14.trans ?_
        exact k
      obtain ⟨fs, hr, hrun, hended, hRW⟩ := X14.leaveW hS (by rw [hp14]; exact hk10) (v := some (.int (jcs.getD i0.toNatClampNeg 0))) (fun h => by rw [Bd.returns] at h; cases h)
      refine hNG ⟨_, _, k15 _ ?_, hrun, hended, _, _, rfl, ?_, by rw [hh]; show CHr Z Ub s.vm h0 T14.vm T14.heap; rw [hp14]; exact CR10.trans (CHv.at X14 hZ (Vd hw) CR10.1), hRW.1, hRW.2.1, hRW.2.2.1, hRW.2.2.2.mono (by decide) (by decide)⟩
      · exact retN X14 hx (t := .char) Bd.returns (by simp) (hb hby Wq) (by first | exact hr | (rw [Aa (Lt jbd _)]; exact hr))
      · show Q_at Z k0 i0 j0 Ra Ya Pa Wa Ma Ga Ka Ba Ua Ha La Ia h0 n0 _ T14.heap _
        rw [hp14]
        exact ⟨(jcs.getD i0.toNatClampNeg 0), rfl, N14, O10, K10, (Lt jbd _)⟩
    · have k16 : ∀ t, Va p e below m T11 64 #[.val (.int k0), .val (.int i0), .val (.long j0), .second, .val (.ref js)] [(.int (((((j0.toUInt64 >>> (((i0 &&& (7 : Int32)) * (8 : Int32)) &&& 0x3f).toInt64.toUInt64).toInt64) &&& (255 : Int64)).toInt32).toUInt32.toUInt16.toUInt32.toInt32))] t → Ab p e below m s₁ #[(.int k0), (.int i0), (.long j0)] 5 t := by
        intro t k
        refine k12 t ?_
        refine XS.icmpYes X11.here hx rfl (pc0 := 39) (pc' := 49) rfl (hb hby Um) rfl (flt hc13).2.1 (by decide) (by decide) ?_
        refine XS.lloadN X11.here hx rfl (hb hby Yq) rfl ?_
        refine XS.iloadN X11.here hx rfl (hb hby Zq) rfl ?_
        refine XS.bipush X11.here hx rfl (hb hby Ar) ?_
        refine XS.iand X11.here hx rfl (hb hby Br) rfl ?_
        refine XS.bipush X11.here hx rfl (hb hby Dr) ?_
        refine XS.imul X11.here hx rfl (hb hby Gr) rfl ?_
        refine XS.lushr X11.here hx rfl (hb hby Hr) rfl ?_
        show Va p e below m T11 58 #[.val (.int k0), .val (.int i0), .val (.long j0), .second, .val (.ref js)] [(.long ((j0.toUInt64 >>> (((i0 &&& (7 : Int32)) * (8 : Int32)) &&& 0x3f).toInt64.toUInt64).toInt64))] t
        refine X11.ldc2J hx hown (mvT hZ (Da hw 49 rfl)) rfl (hb hby Ir) ?_
        refine XS.land X11.here hx rfl (hb hby Kr) rfl ?_
        refine XS.l2i X11.here hx rfl (hb hby Lr) rfl ?_
        refine XS.i2c X11.here hx rfl (hb hby Mr) rfl ?_
        exact k
      obtain ⟨fs, hr, hrun, hended, hRW⟩ := X11.leaveW hS (by rw [hp11]; exact hk10) (v := some (.int (((((j0.toUInt64 >>> (((i0 &&& (7 : Int32)) * (8 : Int32)) &&& 0x3f).toInt64.toUInt64).toInt64) &&& (255 : Int64)).toInt32).toUInt32.toUInt16.toUInt32.toInt32))) (fun h => by rw [Bd.returns] at h; cases h)
      refine hNG ⟨_, _, k16 _ ?_, hrun, hended, _, _, rfl, ?_, by rw [hh]; show CHr Z Ub s.vm h0 T11.vm T11.heap; rw [hp11]; exact CR10.trans (CHv.at X11 hZ (Vd hw) CR10.1), hRW.1, hRW.2.1, hRW.2.2.1, hRW.2.2.2.mono (by decide) (by decide)⟩
      · exact retN X11 hx (t := .char) Bd.returns (by simp) (hb hby Pr) (by first | exact hr | (rw [Aa (Kt _)]; exact hr))
      · show Q_at Z k0 i0 j0 Ra Ya Pa Wa Ma Ga Ka Ba Ua Ha La Ia h0 n0 _ T11.heap _
        rw [hp11]
        exact ⟨(((((j0.toUInt64 >>> (((i0 &&& (7 : Int32)) * (8 : Int32)) &&& 0x3f).toInt64.toUInt64).toInt64) &&& (255 : Int64)).toInt32).toUInt32.toUInt16.toUInt32.toInt32), rfl, N11, O10, K10, (Kt _)⟩
  have k17 : ∀ t, Va p e below m s₁ 1 #[.val (.int k0), .val (.int i0), .val (.long j0), .second, .unset] [(.int k0)] t → Ab p e below m s₁ #[(.int k0), (.int i0), (.long j0)] 5 t := by
    intro t k
    refine k00 t ?_
    refine XS.iloadN X00.here hx rfl (hb hby Ms) rfl ?_
    exact k
  by_cases hc18 : k0 = (0 : Int32)
  · obtain ⟨a19, T19, h19, q19, t19, kb19, X19, e19, E19, hS, hk19, hZ, hown, Ex19, Fc19, Fv19, Av19, la19, lb19, hC19, -, hSf19, st19⟩ := ldcCH X00 hx hZ hown (Da hw 6 rfl) (Im hw) e00 hS (Nat.zero_le _) (Vd hw) (EL := Ub) (List.mem_of_getElem? (i := 0) rfl) CR0.1 (vs := [(.int 112), (.int 101), (.int 110), (.int 100), (.int 105), (.int 110), (.int 103)]) (z := (7 : Int32)) ⟨by decide, by decide⟩ (by decide) (by decide) (g := (mkF m 4 #[.val (.int k0), .val (.int i0), .val (.long j0), .second, .unset] [])) rfl (hb hby Ps) (n := 28) (by decide) (by decide) (by decide) (by decide)
    have CR20 := CR0.trans hC19
    have O19 := O0.ext E19
    have K19 := K00.ext E19
    have k21 : ∀ t, Va p e below m T19 31 #[.val (.int k0), .val (.int i0), .val (.long j0), .second, .unset] [(.ref a19)] t → Ab p e below m s₁ #[(.int k0), (.int i0), (.long j0)] 5 t := by
      intro t k
      refine k17 t ?_
      refine XS.ifNo X00.here hx rfl (hb hby Mo) rfl ((if0 _ _).trans (teq hc18).2) ?_
      refine st19 _ ?_
      refine XS.goto X19.here hx rfl (pc0 := 6) (pc' := 31) rfl (hb hby Rs) (by decide) (by decide) ?_
      exact k
    exact J10 T19.vm _ _ _ h19 a19 t19 kb19 (7 : Int32) [(.int 112), (.int 101), (.int 110), (.int 100), (.int 105), (.int 110), (.int 103)] ([(112 : Int32), (101 : Int32), (110 : Int32), (100 : Int32), (105 : Int32), (110 : Int32), (103 : Int32)] : List Int32) hS hk19 hZ hown CR20 (X19.more (by decide) (by decide)) e19 N00 O19 K19 Ex19 Fc19 Fv19 Av19 Hj Mi (Nat.le_of_ble_eq_true rfl) k21
  · have k22 : ∀ t, Va p e below m s₁ 11 #[.val (.int k0), .val (.int i0), .val (.long j0), .second, .unset] [(.int 1), (.int k0)] t → Ab p e below m s₁ #[(.int k0), (.int i0), (.long j0)] 5 t := by
      intro t k
      refine k17 t ?_
      refine XS.ifYes X00.here hx rfl (pc0 := 1) (pc' := 9) rfl (hb hby Mo) rfl ((if0 _ _).trans (feq hc18).2) (by decide) (by decide) ?_
      refine XS.iloadN X00.here hx rfl (hb hby Us) rfl ?_
      refine XS.iconst X00.here hx rfl (hb hby Rr) ?_
      exact k
    by_cases hc23 : k0 = (1 : Int32)
    · obtain ⟨a24, T24, h24, q24, t24, kb24, X24, e24, E24, hS, hk24, hZ, hown, Ex24, Fc24, Fv24, Av24, la24, lb24, hC24, -, hSf24, st24⟩ := ldcCH X00 hx hZ hown (Da hw 109 rfl) (Im hw) e00 hS (Nat.zero_le _) (Vd hw) (EL := Ub) (List.mem_of_getElem? (i := 1) rfl) CR0.1 (vs := [(.int 97), (.int 112), (.int 112), (.int 114), (.int 111), (.int 118), (.int 101), (.int 100)]) (z := (8 : Int32)) ⟨by decide, by decide⟩ (by decide) (by decide) (g := (mkF m 14 #[.val (.int k0), .val (.int i0), .val (.long j0), .second, .unset] [])) rfl (hb hby Ur) (n := 32) (by decide) (by decide) (by decide) (by decide)
      have CR25 := CR0.trans hC24
      have O24 := O0.ext E24
      have K24 := K00.ext E24
      have k26 : ∀ t, Va p e below m T24 31 #[.val (.int k0), .val (.int i0), .val (.long j0), .second, .unset] [(.ref a24)] t → Ab p e below m s₁ #[(.int k0), (.int i0), (.long j0)] 5 t := by
        intro t k
        refine k22 t ?_
        refine XS.icmpNo X00.here hx rfl (hb hby Wm) rfl (teq hc23).2 ?_
        refine st24 _ ?_
        refine XS.goto X24.here hx rfl (pc0 := 16) (pc' := 31) rfl (hb hby Vr) (by decide) (by decide) ?_
        exact k
      exact J10 T24.vm _ _ _ h24 a24 t24 kb24 (8 : Int32) [(.int 97), (.int 112), (.int 112), (.int 114), (.int 111), (.int 118), (.int 101), (.int 100)] ([(97 : Int32), (112 : Int32), (112 : Int32), (114 : Int32), (111 : Int32), (118 : Int32), (101 : Int32), (100 : Int32)] : List Int32) hS hk24 hZ hown CR25 (X24.more (by decide) (by decide)) e24 N00 O24 K24 Ex24 Fc24 Fv24 Av24 Uj Aj (Nat.le_of_ble_eq_true rfl) k26
    · have k27 : ∀ t, Va p e below m s₁ 21 #[.val (.int k0), .val (.int i0), .val (.long j0), .second, .unset] [(.int 2), (.int k0)] t → Ab p e below m s₁ #[(.int k0), (.int i0), (.long j0)] 5 t := by
        intro t k
        refine k22 t ?_
        refine XS.icmpYes X00.here hx rfl (pc0 := 11) (pc' := 19) rfl (hb hby Wm) rfl (feq hc23).2 (by decide) (by decide) ?_
        refine XS.iloadN X00.here hx rfl (hb hby Wr) rfl ?_
        refine XS.iconst X00.here hx rfl (hb hby Yr) ?_
        exact k
      by_cases hc28 : k0 = (2 : Int32)
      · obtain ⟨a29, T29, h29, q29, t29, kb29, X29, e29, E29, hS, hk29, hZ, hown, Ex29, Fc29, Fv29, Av29, la29, lb29, hC29, -, hSf29, st29⟩ := ldcCH X00 hx hZ hown (Da hw 111 rfl) (Im hw) e00 hS (Nat.zero_le _) (Vd hw) (EL := Ub) (List.mem_of_getElem? (i := 2) rfl) CR0.1 (vs := [(.int 100), (.int 101), (.int 110), (.int 105), (.int 101), (.int 100)]) (z := (6 : Int32)) ⟨by decide, by decide⟩ (by decide) (by decide) (g := (mkF m 24 #[.val (.int k0), .val (.int i0), .val (.long j0), .second, .unset] [])) rfl (hb hby Zr) (n := 24) (by decide) (by decide) (by decide) (by decide)
        have CR30 := CR0.trans hC29
        have O29 := O0.ext E29
        have K29 := K00.ext E29
        have k31 : ∀ t, Va p e below m T29 31 #[.val (.int k0), .val (.int i0), .val (.long j0), .second, .unset] [(.ref a29)] t → Ab p e below m s₁ #[(.int k0), (.int i0), (.long j0)] 5 t := by
          intro t k
          refine k27 t ?_
          refine XS.icmpNo X00.here hx rfl (hb hby Ym) rfl (teq hc28).2 ?_
          refine st29 _ ?_
          refine XS.goto X29.here hx rfl (pc0 := 26) (pc' := 31) rfl (hb hby As) (by decide) (by decide) ?_
          exact k
        exact J10 T29.vm _ _ _ h29 a29 t29 kb29 (6 : Int32) [(.int 100), (.int 101), (.int 110), (.int 105), (.int 101), (.int 100)] ([(100 : Int32), (101 : Int32), (110 : Int32), (105 : Int32), (101 : Int32), (100 : Int32)] : List Int32) hS hk29 hZ hown CR30 (X29.more (by decide) (by decide)) e29 N00 O29 K29 Ex29 Fc29 Fv29 Av29 Ll Pk (Nat.le_of_ble_eq_true rfl) k31
      · obtain ⟨a32, T32, h32, q32, t32, kb32, X32, e32, E32, hS, hk32, hZ, hown, Ex32, Fc32, Fv32, Av32, la32, lb32, hC32, -, hSf32, st32⟩ := ldcCH X00 hx hZ hown (Da hw 112 rfl) (Im hw) e00 hS (Nat.zero_le _) (Vd hw) (EL := Ub) (List.mem_of_getElem? (i := 3) rfl) CR0.1 (vs := []) (z := (0 : Int32)) ⟨by decide, by decide⟩ (by decide) (by decide) (g := (mkF m 29 #[.val (.int k0), .val (.int i0), .val (.long j0), .second, .unset] [])) rfl (hb hby Bs) (n := 0) (by decide) (by decide) (by decide) (by decide)
        have CR33 := CR0.trans hC32
        have O32 := O0.ext E32
        have K32 := K00.ext E32
        have k34 : ∀ t, Va p e below m T32 31 #[.val (.int k0), .val (.int i0), .val (.long j0), .second, .unset] [(.ref a32)] t → Ab p e below m s₁ #[(.int k0), (.int i0), (.long j0)] 5 t := by
          intro t k
          refine k27 t ?_
          refine XS.icmpYes X00.here hx rfl (pc0 := 21) (pc' := 29) rfl (hb hby Ym) rfl (feq hc28).2 (by decide) (by decide) ?_
          refine st32 _ ?_
          exact k
        exact J10 T32.vm _ _ _ h32 a32 t32 kb32 (0 : Int32) [] ([] : List Int32) hS hk32 hZ hown CR33 (X32.more (by decide) (by decide)) e32 N00 O32 K32 Ex32 Fc32 Fv32 Av32 Zs Ds (Nat.le_of_ble_eq_true rfl) k34
theorem Ys {Z : State} {EL : List (String × Nat)} {vm : Vm} {h : Heap} {x : Addr} (hal : Z.vm.Alike vm) (E : Exa Z h x "java/lang/String") (N : Fld Z h x "java/lang/String" "value" "[B" .null) : Safe Z EL vm h x := fun B => by
  obtain ⟨cell, k, e1, e2, e3, -, -⟩ := E
  obtain ⟨p, -, u, a, -, q, -, F, rfl | rfl⟩ := B
  · obtain ⟨cell2, _, _, _, _, n1, n2, -, -, -, -, n7⟩ := N
    have hq : h[q.sa]? = some q.sC := F.ha
    cases hq.symm.trans n1
    obtain ⟨cS, ⟨⟨-, -, -, ⟨c1, k1, i1, f1, -⟩, -, -, -, v1, -⟩, -⟩, -⟩ := F
    obtain ⟨k3, e3', -⟩ := State.fieldFound?_setVm (s := ({ Z with heap := h } : State)) (vm' := vm) hal (show ({ Z with heap := h } : State).fieldFound? _ _ _ = _ from n2)
    have e4 := (show (Wst Z vm h).fieldFound? _ _ _ = _ from e3').symm.trans f1
    simp only [Option.some.injEq, Prod.mk.injEq] at e4
    rw [← e4.2.2.2, n7] at v1
    simp at v1
  · cases (show h[q.sd]? = some q.SA from F.hd).symm.trans e1
    obtain ⟨cS, -, -, f, -⟩ := F
    have f' := (show vm.findClass "[B" = some q.SA.cls from f)
    rw [hal.findClass] at f'
    obtain ⟨k1, q1, q2⟩ := Vm.findClass_spec f'
    obtain ⟨k2, q3, q4⟩ := Vm.findClass_spec e2
    cases q1.symm.trans q3
    exact absurd (q2.symm.trans q4) (by decide)
theorem ef_i4 (m : MethodId) (x0 : Addr) (x1 : Addr) (x2 : Int32) (x3 : Int32)  : entryFrame m #[(.ref x0), (.ref x1), (.int x2), (.int x3), .null] 6 = mkF m 0 #[.val (.ref x0), .val (.ref x1), .val (.int x2), .val (.int x3), .val .null, .unset] [] := by first | (simp [entryFrame, mkF, argsToLocals, Value.category]; done) | rfl
theorem Zn : decode jdk_42_method_149_code 0 = .ok (.aload_n 0, 1) := by decide +kernel
theorem Ao : decode jdk_42_method_149_code 1 = .ok (.invokespecial 1, 3) := by decide +kernel
theorem Bo : decode jdk_42_method_149_code 4 = .ok (.iload_n 3, 1) := by decide +kernel
theorem Go : decode jdk_42_method_149_code 5 = .ok (.ifCond .ne 22, 3) := by decide +kernel
theorem Ho : decode jdk_42_method_149_code 8 = .ok (.aload_n 0, 1) := by decide +kernel
theorem Io : decode jdk_42_method_149_code 9 = .ok (.ldc 7, 2) := by decide +kernel
theorem Zm : decode jdk_42_method_149_code 11 = .ok (.getfield 9, 3) := by decide +kernel
theorem Bn : decode jdk_42_method_149_code 14 = .ok (.putfield 9, 3) := by decide +kernel
theorem Dn : decode jdk_42_method_149_code 17 = .ok (.aload_n 0, 1) := by decide +kernel
theorem Gn : decode jdk_42_method_149_code 18 = .ok (.ldc 7, 2) := by decide +kernel
theorem Hn : decode jdk_42_method_149_code 20 = .ok (.getfield 15, 3) := by decide +kernel
theorem Kn : decode jdk_42_method_149_code 23 = .ok (.putfield 15, 3) := by decide +kernel
theorem Ln : decode jdk_42_method_149_code 26 = .ok (.return_, 1) := by decide +kernel
theorem Dj : plainName "java/lang/String" = true := by first | (simp [plainName, overriddenIn]; done) | decide +kernel
abbrev Bt : MethodName := ⟨"java/lang/String", "<init>", "([CIILjava/lang/Void;)V"⟩
def Q_i4 (Z : State) (s0 : Addr) (b0 : Addr) (k0 : ClassId) (Ra : Addr) (Ya : Addr) (Pa : Addr) (Wa : Addr) (Ma : Addr) (Ga : Addr) (Ka : Addr) (Ba : Addr) (Ua : Addr) (Ha : Addr) (La : Int32) (Ia : Value) (h0 : Heap) (n0 : Nat) (v : Option Value) (h : Heap) (L : List Loc) : Prop := ∃ (t : Addr) (k : ClassId), v = none ∧ Fr n0 L ∧ Old Z n0 h ∧ Keep h0 h [s0] ∧ Exa Z h s0 "java/lang/String" ∧ Fld Z h s0 "java/lang/String" "coder" "B" (.int 0) ∧ Fld Z h s0 "java/lang/String" "value" "[B" (.ref t) ∧ Arv Z h t k .byte (0 : Int32) [] (.int 0)
set_option maxRecDepth 65536 in
set_option maxHeartbeats 40000000 in
theorem rm_i4 (l : Launch) (Z : State) (a0 : Array Value) (hw : ∀ d ∈ tables_1, d.before a0 Z = true) (ws : List Jvm.Cond) (s0 : Addr) (b0 : Addr) (k0 : ClassId) (Ra : Addr) (Ya : Addr) (Pa : Addr) (Wa : Addr) (Ma : Addr) (Ga : Addr) (Ka : Addr) (Ba : Addr) (Ua : Addr) (Ha : Addr) (La : Int32) (Ia : Value) (h0 : Heap) (n0 : Nat) (O0 : Old Z n0 h0) (hE : EV Z Ra Ya Pa Wa Ma Ga Ka Ba Ua Ha La Ia) (P0 : Exa Z h0 s0 "java/lang/String") (P1 : Fld Z h0 s0 "java/lang/String" "value" "[B" .null) (P2 : Fld Z h0 s0 "java/lang/String" "coder" "B" (.int 0)) (P3 : Arv Z h0 b0 k0 .char (0 : Int32) [] (.int 0)) (g_s0 : n0 ≤ s0) :
    MetFree l Bt (head1 (Jvm.Cond.code Bt jdk_42_method_149_code 6 none :: ws) ({ frames := 1, cells := 4, slots := 8, locals := 12 } : Room)) (fun a U => a = #[(.ref s0), (.ref b0), (.int 0), (.int 0), .null] ∧ Z.Warmed39 U.vm ∧ U.heap = h0 ∧ CHv Z Ub U.vm h0) (fun _ _ _ _ _ => True) (fun _ U o U' => ∃ v L, o = .returned v ∧ Q_i4 Z s0 b0 k0 Ra Ya Pa Wa Ma Ga Ka Ba Ua Ha La Ia h0 n0 v U'.heap L ∧ CHr Z Ub U.vm U.heap U'.vm U'.heap ∧ ReturnedEndW U o U' L ({ frames := 1, cells := 4, slots := 8, locals := 12 } : Room).cells ({ frames := 1, cells := 4, slots := 8, locals := 12 } : Room).slots) := by
  refine MetFree.of_bodySF (plainFor_of_name Dj) hisR ?_
  intro p e s m args below meth c s₁ Bd hml0 hP hK
  obtain ⟨rfl, hZ, hh, hCH⟩ := hP
  have hx := Bd.exec
  have hby := Bd.bytes
  have hml : c.maxLocals = 6 := hml0
  have hown : s.vm.findClass "java/lang/String" = some m.cls := findClass_of_methodNamed Bd.named
  have hnm := (name_of_methodNamed Bd.named Bd.method).1
  have X00 : Stand p l e ({ frames := 1, cells := 4, slots := 8, locals := 12 } : Room) s m #[(.ref s0), (.ref b0), (.int 0), (.int 0), .null] below meth c s₁ [] 0 0 := Stand.of_body Bd
  have e00 : s₁.heap = h0 := by rw [← hh, Bd.state]; rfl
  have N00 := Fr.nil n0
  refine Classical.byContradiction fun hNG => ?_
  have K00 := Keep.refl h0 [s0]
  have k00 : ∀ t, Va p e below m s₁ 0 #[.val (.ref s0), .val (.ref b0), .val (.int 0), .val (.int 0), .val .null, .unset] [] t → Ab p e below m s₁ #[(.ref s0), (.ref b0), (.int 0), (.int 0), .null] 6 t := fun t k => castTop (ef_i4 m s0 b0 ((0 : Int32)) ((0 : Int32)) ) k
  have hS : s.Since s.vm 0 := (State.WarmedH.refl s).since 0
  have X00 : Stand p l e ({ frames := 1, cells := 4, slots := 8, locals := 12 } : Room) (s.setVm s.vm) m #[(.ref s0), (.ref b0), (.int 0), (.int 0), .null] below meth c s₁ [] 0 0 := X00
  have hZ : Z.Warmed39 (s.setVm s.vm).vm := hZ
  have hown : (s.setVm s.vm).vm.findClass "java/lang/String" = some m.cls := hown
  have CR0 : CHr Z Ub s.vm h0 s.vm h0 := CHr.refl hCH
  obtain ⟨Hh, Mh, Ih, Kh, Rg, Gh, Ki, Li, Dd, Zb, Lb, Mb, Ad, Bc, Pb, Rb, Pd, Hd, Dc, Gc, Bb, Za, Zc, Yc, Lh, Gb, Db, Hb⟩ := (id hE : EV Z Ra Ya Pa Wa Ma Ga Ka Ba Ua Ha La Ia)
  obtain ⟨kw_PENDING_word, Aw_PENDING_word⟩ := Gb.arv
  obtain ⟨kw_APPROVED_word, Aw_APPROVED_word⟩ := Db.arv
  obtain ⟨kw_DENIED_word, Aw_DENIED_word⟩ := Hb.arv
  have Sf_s0 : Safe Z Ub s.vm h0 s0 := Ys hZ.alike P0 P1
  have lt_s0 := P0.lt
  obtain ⟨T10, X10, e10, st10⟩ := initO X00 hx hZ hown (Da hw 61 rfl) (Da hw 62 rfl) (Da hw 63 rfl) e00 (g := (mkF m 1 #[.val (.ref s0), .val (.ref b0), .val (.int 0), .val (.int 0), .val .null, .unset] [(.ref s0)])) rfl (by rw [hml]; rfl) rfl (hb hby Ao) (by decide) (W := 0) (by show 2 * 0 + _ ≤ _; exact Nat.le_of_eq rfl) (by decide)
  obtain ⟨a11, T11, h11, q11, t11, kb11, X11, e11, E11, hS, hk11, hZ, hown, Ex11, Fc11, Fv11, Av11, la11, lb11, hC11, -, hSf11, st11⟩ := ldcCH X10 hx hZ hown (Da hw 114 rfl) (Im hw) e10 hS (Nat.zero_le _) (Vd hw) (EL := Ub) (List.mem_of_getElem? (i := 4) rfl) CR0.1 (vs := []) (z := (0 : Int32)) ⟨by decide, by decide⟩ (by decide) (by decide) (g := (mkF m 9 #[.val (.ref s0), .val (.ref b0), .val (.int 0), .val (.int 0), .val .null, .unset] [(.ref s0)])) rfl (hb hby Io) (n := 0) (by decide) (by decide) (by decide) (by decide)
  have CR12 := CR0.trans hC11
  have O11 := O0.ext E11
  have K11 := K00.ext E11
  obtain ⟨T13, X13, e13, st13⟩ := getF X11 hx hZ hown (host := "") (Or.inl (Da hw 19 rfl)) Via.refl e11 Fv11 (g := (mkF m 11 #[.val (.ref s0), .val (.ref b0), .val (.int 0), .val (.int 0), .val .null, .unset] [(.ref a11), (.ref s0)])) rfl rfl (hb hby Zm)
  have f14 := (P0.ext E11)
  have f15 := (P1.ext E11)
  obtain ⟨T16, h16, X16, e16, W16, st16⟩ := putF X13 hx hZ hown (host := "") (Or.inl (Da hw 19 rfl)) Via.refl e13 f15 f14 (Or.inr ⟨(Da hw 10 rfl), rfl, hnm⟩) (Da hw 8 rfl) (ty := (.array .byte)) (by decide) rfl rfl (g := (mkF m 14 #[.val (.ref s0), .val (.ref b0), .val (.int 0), .val (.int 0), .val .null, .unset] [(.ref t11), (.ref s0)])) rfl rfl (hb hby Bn)
  have sf18 := (CHr.safe hC11 lt_s0 Sf_s0)
  have CR17 := CR12.trans (CHr.wr W16 sf18 CR12.1)
  have F16_value := f15.same W16
  have N16 := Fr.snoc X16 N00 g_s0
  have O16 := O11.wr W16 g_s0
  have K16 := K11.wr W16 (Or.inl (List.mem_of_getElem? (i := 0) rfl))
  obtain ⟨a19, T19, h19, q19, t19, kb19, X19, e19, E19, hS, hk19, hZ, hown, Ex19, Fc19, Fv19, Av19, la19, lb19, hC19, -, hSf19, st19⟩ := ldcCH X16 hx hZ hown (Da hw 114 rfl) (Im hw) e16 hS (Nat.le_trans hk11 (Keep.of_wr W16).1) (Vd hw) (EL := Ub) (List.mem_of_getElem? (i := 4) rfl) CR17.1 (vs := []) (z := (0 : Int32)) ⟨by decide, by decide⟩ (by decide) (by decide) (g := (mkF m 18 #[.val (.ref s0), .val (.ref b0), .val (.int 0), .val (.int 0), .val .null, .unset] [(.ref s0)])) rfl (hb hby Gn) (n := 0) (by decide) (by decide) (by decide) (by decide)
  have CR20 := CR17.trans hC19
  have O19 := O16.ext E19
  have K19 := K16.ext E19
  obtain ⟨T21, X21, e21, st21⟩ := getF X19 hx hZ hown (host := "") (Or.inl (Da hw 26 rfl)) Via.refl e19 Fc19 (g := (mkF m 20 #[.val (.ref s0), .val (.ref b0), .val (.int 0), .val (.int 0), .val .null, .unset] [(.ref a19), (.ref s0)])) rfl rfl (hb hby Hn)
  have f22 := ((f14.wr W16).ext E19)
  have f23 := (((P2.ext E11).other W16 (Or.inr (slot_ne (Or.inr (Da hw 11 rfl)) (Or.inr (Da hw 10 rfl)) (by decide) (t := .byte) (t' := (.array .byte)) (by decide) (by decide)))).ext E19)
  obtain ⟨T24, h24, X24, e24, W24, st24⟩ := putFN X21 hx hZ hown (Da hw 26 rfl) Via.refl e21 f23 f22 (Or.inr ⟨(Da hw 11 rfl), rfl, hnm⟩) (Da hw 8 rfl) (ty := .byte) (v' := .int (0 : Int32)) (by decide) rfl (by decide) (g := (mkF m 23 #[.val (.ref s0), .val (.ref b0), .val (.int 0), .val (.int 0), .val .null, .unset] [(.int 0), (.ref s0)])) rfl rfl (hb hby Kn)
  have sf26 := (CHr.safe hC19 (Nat.lt_of_lt_of_le (Nat.lt_of_lt_of_le lt_s0 E11.1) (Keep.of_wr W16).1) (Safe.wr W16 sf18 CR12.1 sf18))
  have CR25 := CR20.trans (CHr.wr W24 sf26 CR20.1)
  have F24_coder := f23.same W24
  have N24 := Fr.snoc X24 N16 g_s0
  have O24 := O19.wr W24 g_s0
  have K24 := K19.wr W24 (Or.inl (List.mem_of_getElem? (i := 0) rfl))
  have k27 : ∀ t, Va p e below m T24 26 #[.val (.ref s0), .val (.ref b0), .val (.int 0), .val (.int 0), .val .null, .unset] [] t → Ab p e below m s₁ #[(.ref s0), (.ref b0), (.int 0), (.int 0), .null] 6 t := by
    intro t k
    refine k00 t ?_
    refine XS.aloadN X00.here hx rfl (hb hby Zn) rfl rfl ?_
    refine st10 _ ?_
    refine XS.iloadN X10.here hx rfl (hb hby Bo) rfl ?_
    refine XS.ifNo X10.here hx rfl (hb hby Go) rfl ((if0 _ _).trans (teq (by decide : (0 : Int32) = (0 : Int32))).2) ?_
    refine XS.aloadN X10.here hx rfl (hb hby Ho) rfl rfl ?_
    refine st11 _ ?_
    refine st13 _ ?_
    refine st16 _ ?_
    show Va p e below m T16 17 #[.val (.ref s0), .val (.ref b0), .val (.int 0), .val (.int 0), .val .null, .unset] [] t
    refine XS.aloadN X16.here hx rfl (hb hby Dn) rfl rfl ?_
    refine st19 _ ?_
    refine st21 _ ?_
    refine st24 _ ?_
    exact k
  have f28 := (f22.wr W24)
  have f29 := ((F16_value.ext E19).other W24 (Or.inr (slot_ne (Or.inr (Da hw 10 rfl)) (Or.inr (Da hw 11 rfl)) (by decide) (t := (.array .byte)) (t' := .byte) (by decide) (by decide))))
  have f30 := (((Av11.other W16 (Ne.symm (hSf11 _ sf18).2)).ext E19).other W24 (Ne.symm (hSf11 _ sf18).2))
  obtain ⟨fs, hr, hrun, hended, hRW⟩ := X24.leaveW hS (by rw [e24]; exact (Nat.le_trans hk19 (Keep.of_wr W24).1)) (v := none) (fun _ => rfl)
  refine hNG ⟨_, _, k27 _ ?_, hrun, hended, _, _, rfl, ?_, by rw [hh]; show CHr Z Ub s.vm h0 T24.vm T24.heap; rw [e24]; exact CR25.trans (CHv.at X24 hZ (Vd hw) CR25.1), hRW.1, hRW.2.1, hRW.2.2.1, hRW.2.2.2.mono (by decide) (by decide)⟩
  · exact X24.returnOut hx Bd.returns (hb hby Ln) hr
  · show Q_i4 Z s0 b0 k0 Ra Ya Pa Wa Ma Ga Ka Ba Ua Ha La Ia h0 n0 _ T24.heap _
    rw [e24]
    exact ⟨t11, kb11, rfl, N24, O24, K24, f28, F24_coder, f29, f30⟩
theorem ef_i1 (m : MethodId) (x0 : Addr) (x1 : Addr)  : entryFrame m #[(.ref x0), (.ref x1)] 2 = mkF m 0 #[.val (.ref x0), .val (.ref x1)] [] := by first | (simp [entryFrame, mkF, argsToLocals, Value.category]; done) | rfl
theorem Vo : decode jdk_42_method_3_code 0 = .ok (.aload_n 0, 1) := by decide +kernel
theorem Wo : decode jdk_42_method_3_code 1 = .ok (.aload_n 1, 1) := by decide +kernel
theorem Yo : decode jdk_42_method_3_code 2 = .ok (.iconst 0, 1) := by decide +kernel
theorem Zo : decode jdk_42_method_3_code 3 = .ok (.aload_n 1, 1) := by decide +kernel
theorem Ap : decode jdk_42_method_3_code 4 = .ok (.arraylength, 1) := by decide +kernel
theorem Bp : decode jdk_42_method_3_code 5 = .ok (.aconst_null, 1) := by decide +kernel
theorem Dp : decode jdk_42_method_3_code 6 = .ok (.invokespecial 27, 3) := by decide +kernel
theorem Ko : parseMethodDescriptor "([CIILjava/lang/Void;)V" = some ⟨[(.array .char), .int, .int, (.object "java/lang/Void")], none⟩ := by decide +kernel
theorem Gp : decode jdk_42_method_3_code 9 = .ok (.return_, 1) := by decide +kernel
abbrev Ml : MethodName := ⟨"java/lang/String", "<init>", "([C)V"⟩
def Q_i1 (Z : State) (s0 : Addr) (b0 : Addr) (k0 : ClassId) (Ra : Addr) (Ya : Addr) (Pa : Addr) (Wa : Addr) (Ma : Addr) (Ga : Addr) (Ka : Addr) (Ba : Addr) (Ua : Addr) (Ha : Addr) (La : Int32) (Ia : Value) (h0 : Heap) (n0 : Nat) (v : Option Value) (h : Heap) (L : List Loc) : Prop := ∃ (t : Addr) (k : ClassId), v = none ∧ Fr n0 L ∧ Old Z n0 h ∧ Keep h0 h [s0] ∧ Exa Z h s0 "java/lang/String" ∧ Fld Z h s0 "java/lang/String" "coder" "B" (.int 0) ∧ Fld Z h s0 "java/lang/String" "value" "[B" (.ref t) ∧ Arv Z h t k .byte (0 : Int32) [] (.int 0)
set_option maxRecDepth 65536 in
set_option maxHeartbeats 40000000 in
theorem rm_i1 (l : Launch) (Z : State) (a0 : Array Value) (hw : ∀ d ∈ tables_1, d.before a0 Z = true) (ws : List Jvm.Cond) (s0 : Addr) (b0 : Addr) (k0 : ClassId) (Ra : Addr) (Ya : Addr) (Pa : Addr) (Wa : Addr) (Ma : Addr) (Ga : Addr) (Ka : Addr) (Ba : Addr) (Ua : Addr) (Ha : Addr) (La : Int32) (Ia : Value) (h0 : Heap) (n0 : Nat) (O0 : Old Z n0 h0) (hE : EV Z Ra Ya Pa Wa Ma Ga Ka Ba Ua Ha La Ia) (P0 : Exa Z h0 s0 "java/lang/String") (P1 : Fld Z h0 s0 "java/lang/String" "value" "[B" .null) (P2 : Fld Z h0 s0 "java/lang/String" "coder" "B" (.int 0)) (P3 : Arv Z h0 b0 k0 .char (0 : Int32) [] (.int 0)) (g_s0 : n0 ≤ s0) :
    MetFree l Ml (head1 (Jvm.Cond.code Ml jdk_42_method_3_code 2 none :: ws) ({ frames := 2, cells := 4, slots := 8, locals := 29 } : Room)) (fun a U => a = #[(.ref s0), (.ref b0)] ∧ Z.Warmed39 U.vm ∧ U.heap = h0 ∧ CHv Z Ub U.vm h0) (fun _ _ _ _ _ => True) (fun _ U o U' => ∃ v L, o = .returned v ∧ Q_i1 Z s0 b0 k0 Ra Ya Pa Wa Ma Ga Ka Ba Ua Ha La Ia h0 n0 v U'.heap L ∧ CHr Z Ub U.vm U.heap U'.vm U'.heap ∧ ReturnedEndW U o U' L ({ frames := 2, cells := 4, slots := 8, locals := 29 } : Room).cells ({ frames := 2, cells := 4, slots := 8, locals := 29 } : Room).slots) := by
  refine MetFree.of_bodySF (plainFor_of_name Dj) hisR ?_
  intro p e s m args below meth c s₁ Bd hml0 hP hK
  obtain ⟨rfl, hZ, hh, hCH⟩ := hP
  have hx := Bd.exec
  have hby := Bd.bytes
  have hml : c.maxLocals = 2 := hml0
  have hown : s.vm.findClass "java/lang/String" = some m.cls := findClass_of_methodNamed Bd.named
  have hnm := (name_of_methodNamed Bd.named Bd.method).1
  have X00 : Stand p l e ({ frames := 2, cells := 4, slots := 8, locals := 29 } : Room) s m #[(.ref s0), (.ref b0)] below meth c s₁ [] 0 0 := Stand.of_body Bd
  have e00 : s₁.heap = h0 := by rw [← hh, Bd.state]; rfl
  have N00 := Fr.nil n0
  refine Classical.byContradiction fun hNG => ?_
  have K00 := Keep.refl h0 [s0]
  have k00 : ∀ t, Va p e below m s₁ 0 #[.val (.ref s0), .val (.ref b0)] [] t → Ab p e below m s₁ #[(.ref s0), (.ref b0)] 2 t := fun t k => castTop (ef_i1 m s0 b0 ) k
  have hS : s.Since s.vm 0 := (State.WarmedH.refl s).since 0
  have X00 : Stand p l e ({ frames := 2, cells := 4, slots := 8, locals := 29 } : Room) (s.setVm s.vm) m #[(.ref s0), (.ref b0)] below meth c s₁ [] 0 0 := X00
  have hZ : Z.Warmed39 (s.setVm s.vm).vm := hZ
  have hown : (s.setVm s.vm).vm.findClass "java/lang/String" = some m.cls := hown
  have CR0 : CHr Z Ub s.vm h0 s.vm h0 := CHr.refl hCH
  obtain ⟨Hh, Mh, Ih, Kh, Rg, Gh, Ki, Li, Dd, Zb, Lb, Mb, Ad, Bc, Pb, Rb, Pd, Hd, Dc, Gc, Bb, Za, Zc, Yc, Lh, Gb, Db, Hb⟩ := (id hE : EV Z Ra Ya Pa Wa Ma Ga Ka Ba Ua Ha La Ia)
  obtain ⟨kw_PENDING_word, Aw_PENDING_word⟩ := Gb.arv
  obtain ⟨kw_APPROVED_word, Aw_APPROVED_word⟩ := Db.arv
  obtain ⟨kw_DENIED_word, Aw_DENIED_word⟩ := Hb.arv
  have Sf_s0 : Safe Z Ub s.vm h0 s0 := Ys hZ.alike P0 P1
  have lt_s0 := P0.lt
  obtain ⟨cl10, Ar10, q10, Sz10, Nn10, Hs10, Gf10⟩ := id P3
  have k11 : ∀ t, Va p e below m s₁ 6 #[.val (.ref s0), .val (.ref b0)] [.null, (.int 0), (.int 0), (.ref b0), (.ref s0)] t → Ab p e below m s₁ #[(.ref s0), (.ref b0)] 2 t := by
    intro t k
    refine k00 t ?_
    refine XS.aloadN X00.here hx rfl (hb hby Vo) rfl rfl ?_
    refine XS.aloadN X00.here hx rfl (hb hby Wo) rfl rfl ?_
    refine XS.iconst X00.here hx rfl (hb hby Yo) ?_
    refine XS.aloadN X00.here hx rfl (hb hby Zo) rfl rfl ?_
    refine X00.arraylength hx (by rw [e00]; exact Ar10.1) (State.isArrayOf_alike hZ.alike Ar10.2.1) (g := (mkF m 4 #[.val (.ref s0), .val (.ref b0)] [(.ref b0), (.int 0), (.ref b0), (.ref s0)])) rfl rfl (hb hby Ap) _ ?_
    rw [len_of Sz10 Nn10]
    refine XS.aconstNull X00.here hx rfl (hb hby Bp) ?_
    exact k
  obtain ⟨_, _, ⟨T12, L12, k12, n12⟩, -, X12, hS12, hg12, ⟨Lc12, hQ12, l12, y12, z12, hC12⟩, st12⟩ := X00.specialBackS hx (y := Bt) rfl hown (mvT hZ (Da hw 57 rfl)) (mvT hZ (Da hw 58 rfl)) (mvT hZ (Da hw 60 rfl)) (by decide) (backOfSH (W := 0) (rm_i4 l Z a0 hw [] s0 b0 k0 _ _ _ _ _ _ _ _ _ _ _ _ h0 n0 O0 hE P0 P1 P2 P3 g_s0 ) hZ (Da hw 60 rfl) (Da hw 7 rfl) (by decide) (by decide) (Vd hw) CR0.1) (g := (mkF m 6 #[.val (.ref s0), .val (.ref b0)] [.null, (.int 0), (.int 0), (.ref b0), (.ref s0)])) rfl (by rw [hml]; rfl) (Steps.refl _) (a := s0) (argsL := [(.ref b0), (.int 0), (.int 0), .null]) (rest := []) (lenOf Ko rfl) rfl (by show 2 * 0 + _ ≤ _; exact Nat.le_of_eq rfl) (hb hby Dp) (fun _ _ => ⟨rfl, e00, (by decide : 0 + 4 ≤ _), (by decide : 0 + 8 ≤ _)⟩)
  dsimp only [Pt.U, Pt.locs, Pt.cells, Pt.slots] at X12 l12 y12 z12 st12 hQ12 hS12 hg12 hC12
  subst l12 y12 z12
  obtain ⟨X12, hS, hZ, hown⟩ := rebS hS (by rw [e00]; exact (Nat.zero_le _)) X12 hS12 hg12 hZ hown
  obtain ⟨t12, k12, rfl, N12q, O12, Kc12, F12_0, F12_1, F12_2, F12_3⟩ := hQ12
  have N12 := Fr.app N00 N12q
  have CR13 := CR0.trans hC12
  have K12 := K00.trans Kc12 (allS (Or.inl (List.mem_of_getElem? (i := 0) rfl)) all0)
  have lt_t12 := F12_3.lt
  have k14 : ∀ t, Va p e below m T12 9 #[.val (.ref s0), .val (.ref b0)] [] t → Ab p e below m s₁ #[(.ref s0), (.ref b0)] 2 t := by
    intro t k
    refine k11 t ?_
    refine st12.trans ?_
    exact k
  obtain ⟨fs, hr, hrun, hended, hRW⟩ := X12.leaveW hS (by exact (Nat.le_refl _)) (v := none) (fun _ => rfl)
  refine hNG ⟨_, _, k14 _ ?_, hrun, hended, _, _, rfl, ?_, by rw [hh]; show CHr Z Ub s.vm h0 T12.vm T12.heap; exact CR13.trans (CHv.at X12 hZ (Vd hw) CR13.1), hRW.1, hRW.2.1, hRW.2.2.1, hRW.2.2.2.mono (by decide) (by decide)⟩
  · exact X12.returnOut hx Bd.returns (hb hby Gp) hr
  · show Q_i1 Z s0 b0 k0 Ra Ya Pa Wa Ma Ga Ka Ba Ua Ha La Ia h0 n0 _ T12.heap _
    exact ⟨t12, k12, rfl, N12, O12, K12, F12_0, F12_1, F12_2, F12_3⟩
theorem ef_str (m : MethodId) (x0 : Addr) (x1 : Int32)  : entryFrame m #[(.ref x0), (.int x1)] 3 = mkF m 0 #[.val (.ref x0), .val (.int x1), .unset] [] := by first | (simp [entryFrame, mkF, argsToLocals, Value.category]; done) | rfl
theorem Zf : decode method_3_code 0 = .ok (.iload_n 1, 1) := by decide +kernel
theorem Ag : decode method_3_code 1 = .ok (.newarray .char, 2) := by decide +kernel
theorem Bg : decode method_3_code 3 = .ok (.astore_n 2, 1) := by decide +kernel
theorem Dg : decode method_3_code 4 = .ok (.iload_n 1, 1) := by decide +kernel
theorem Gg : decode method_3_code 5 = .ok (.ifCond .le 9, 3) := by decide +kernel
theorem Ke : decode method_3_code 14 = .ok (.iload_n 1, 1) := by decide +kernel
theorem Le : decode method_3_code 15 = .ok (.iconst 1, 1) := by decide +kernel
theorem Me : decode method_3_code 16 = .ok (.if_icmp .le 9, 3) := by decide +kernel
theorem Pe : decode method_3_code 25 = .ok (.iload_n 1, 1) := by decide +kernel
theorem Re : decode method_3_code 26 = .ok (.iconst 2, 1) := by decide +kernel
theorem Ue : decode method_3_code 27 = .ok (.if_icmp .le 9, 3) := by decide +kernel
theorem Ve : decode method_3_code 36 = .ok (.iload_n 1, 1) := by decide +kernel
theorem We : decode method_3_code 37 = .ok (.iconst 3, 1) := by decide +kernel
theorem Ye : decode method_3_code 38 = .ok (.if_icmp .le 9, 3) := by decide +kernel
theorem Ze : decode method_3_code 47 = .ok (.iload_n 1, 1) := by decide +kernel
theorem Af : decode method_3_code 48 = .ok (.iconst 4, 1) := by decide +kernel
theorem Bf : decode method_3_code 49 = .ok (.if_icmp .le 9, 3) := by decide +kernel
theorem Df : decode method_3_code 58 = .ok (.iload_n 1, 1) := by decide +kernel
theorem Gf : decode method_3_code 59 = .ok (.iconst 5, 1) := by decide +kernel
theorem Hf : decode method_3_code 60 = .ok (.if_icmp .le 9, 3) := by decide +kernel
theorem Kf : decode method_3_code 69 = .ok (.iload_n 1, 1) := by decide +kernel
theorem Lf : decode method_3_code 70 = .ok (.bipush 6, 2) := by decide +kernel
theorem Mf : decode method_3_code 72 = .ok (.if_icmp .le 11, 3) := by decide +kernel
theorem Pf : decode method_3_code 83 = .ok (.iload_n 1, 1) := by decide +kernel
theorem Rf : decode method_3_code 84 = .ok (.bipush 7, 2) := by decide +kernel
theorem Uf : decode method_3_code 86 = .ok (.if_icmp .le 11, 3) := by decide +kernel
theorem Vf : decode method_3_code 97 = .ok (.iload_n 1, 1) := by decide +kernel
theorem Wf : decode method_3_code 98 = .ok (.bipush 8, 2) := by decide +kernel
theorem Yd : decode method_3_code 100 = .ok (.if_icmp .le 11, 3) := by decide +kernel
theorem Zd : decode method_3_code 111 = .ok (.new 16, 3) := by decide +kernel
theorem Ae : decode method_3_code 114 = .ok (.dup, 1) := by decide +kernel
theorem Be : decode method_3_code 115 = .ok (.aload_n 2, 1) := by decide +kernel
theorem De : decode method_3_code 116 = .ok (.invokespecial 27, 3) := by decide +kernel
theorem Dl : parseMethodDescriptor "([C)V" = some ⟨[(.array .char)], none⟩ := by decide +kernel
theorem Ge : decode method_3_code 119 = .ok (.areturn, 1) := by decide +kernel
theorem Ug : decode method_3_code 8 = .ok (.aload_n 2, 1) := by decide +kernel
theorem Vg : decode method_3_code 9 = .ok (.iconst 0, 1) := by decide +kernel
theorem Ig : decode method_3_code 10 = .ok (.aload_n 0, 1) := by decide +kernel
theorem Kg : decode method_3_code 11 = .ok (.iconst 0, 1) := by decide +kernel
theorem Lg : decode method_3_code 12 = .ok (.caload, 1) := by decide +kernel
theorem Mg : decode method_3_code 13 = .ok (.castore, 1) := by decide +kernel
theorem Wg : decode method_3_code 19 = .ok (.aload_n 2, 1) := by decide +kernel
theorem Yg : decode method_3_code 20 = .ok (.iconst 1, 1) := by decide +kernel
theorem Zg : decode method_3_code 21 = .ok (.aload_n 0, 1) := by decide +kernel
theorem Ah : decode method_3_code 22 = .ok (.iconst 1, 1) := by decide +kernel
theorem Bh : decode method_3_code 23 = .ok (.caload, 1) := by decide +kernel
theorem Dh : decode method_3_code 24 = .ok (.castore, 1) := by decide +kernel
theorem Ph : decode method_3_code 30 = .ok (.aload_n 2, 1) := by decide +kernel
theorem Rh : decode method_3_code 31 = .ok (.iconst 2, 1) := by decide +kernel
theorem Uh : decode method_3_code 32 = .ok (.aload_n 0, 1) := by decide +kernel
theorem Vh : decode method_3_code 33 = .ok (.iconst 2, 1) := by decide +kernel
theorem Wh : decode method_3_code 34 = .ok (.caload, 1) := by decide +kernel
theorem Yh : decode method_3_code 35 = .ok (.castore, 1) := by decide +kernel
theorem Pi : decode method_3_code 41 = .ok (.aload_n 2, 1) := by decide +kernel
theorem Ri : decode method_3_code 42 = .ok (.iconst 3, 1) := by decide +kernel
theorem Ui : decode method_3_code 43 = .ok (.aload_n 0, 1) := by decide +kernel
theorem Vi : decode method_3_code 44 = .ok (.iconst 3, 1) := by decide +kernel
theorem Wi : decode method_3_code 45 = .ok (.caload, 1) := by decide +kernel
theorem Yi : decode method_3_code 46 = .ok (.castore, 1) := by decide +kernel
theorem Ij : decode method_3_code 52 = .ok (.aload_n 2, 1) := by decide +kernel
theorem Kj : decode method_3_code 53 = .ok (.iconst 4, 1) := by decide +kernel
theorem Lj : decode method_3_code 54 = .ok (.aload_n 0, 1) := by decide +kernel
theorem Mj : decode method_3_code 55 = .ok (.iconst 4, 1) := by decide +kernel
theorem Pj : decode method_3_code 56 = .ok (.caload, 1) := by decide +kernel
theorem Rj : decode method_3_code 57 = .ok (.castore, 1) := by decide +kernel
theorem Rk : decode method_3_code 63 = .ok (.aload_n 2, 1) := by decide +kernel
theorem Uk : decode method_3_code 64 = .ok (.iconst 5, 1) := by decide +kernel
theorem Vk : decode method_3_code 65 = .ok (.aload_n 0, 1) := by decide +kernel
theorem Wk : decode method_3_code 66 = .ok (.iconst 5, 1) := by decide +kernel
theorem Yk : decode method_3_code 67 = .ok (.caload, 1) := by decide +kernel
theorem Zk : decode method_3_code 68 = .ok (.castore, 1) := by decide +kernel
theorem Wl : decode method_3_code 75 = .ok (.aload_n 2, 1) := by decide +kernel
theorem Yl : decode method_3_code 76 = .ok (.bipush 6, 2) := by decide +kernel
theorem Zl : decode method_3_code 78 = .ok (.aload_n 0, 1) := by decide +kernel
theorem Am : decode method_3_code 79 = .ok (.bipush 6, 2) := by decide +kernel
theorem Bm : decode method_3_code 81 = .ok (.caload, 1) := by decide +kernel
theorem Dm : decode method_3_code 82 = .ok (.castore, 1) := by decide +kernel
theorem Mn : decode method_3_code 89 = .ok (.aload_n 2, 1) := by decide +kernel
theorem Pn : decode method_3_code 90 = .ok (.bipush 7, 2) := by decide +kernel
theorem Rn : decode method_3_code 92 = .ok (.aload_n 0, 1) := by decide +kernel
theorem Un : decode method_3_code 93 = .ok (.bipush 7, 2) := by decide +kernel
theorem Vn : decode method_3_code 95 = .ok (.caload, 1) := by decide +kernel
theorem Wn : decode method_3_code 96 = .ok (.castore, 1) := by decide +kernel
theorem Yp : decode method_3_code 103 = .ok (.aload_n 2, 1) := by decide +kernel
theorem Zp : decode method_3_code 104 = .ok (.bipush 8, 2) := by decide +kernel
theorem Aq : decode method_3_code 106 = .ok (.aload_n 0, 1) := by decide +kernel
theorem Bq : decode method_3_code 107 = .ok (.bipush 8, 2) := by decide +kernel
theorem Dq : decode method_3_code 109 = .ok (.caload, 1) := by decide +kernel
theorem Gq : decode method_3_code 110 = .ok (.castore, 1) := by decide +kernel
abbrev Dt : MethodName := ⟨"com/example/kwota/kwota/StateNamedPinLaw", "str", "([CI)Ljava/lang/String;"⟩
def Km (Z : State) (q0 : Addr) (kq : ClassId) (nq : Int32) (c0 : Int32) (c1 : Int32) (c2 : Int32) (c3 : Int32) (c4 : Int32) (c5 : Int32) (c6 : Int32) (c7 : Int32) (c8 : Int32) (Ra : Addr) (Ya : Addr) (Pa : Addr) (Wa : Addr) (Ma : Addr) (Ga : Addr) (Ka : Addr) (Ba : Addr) (Ua : Addr) (Ha : Addr) (La : Int32) (Ia : Value) (h0 : Heap) (n0 : Nat) (v : Option Value) (h : Heap) (L : List Loc) : Prop := ∃ (b : Addr) (t : Addr) (k : ClassId) (z : Int32) (vs : List Value) (cs : List Int32), v = some (.ref b) ∧ Fr n0 L ∧ Old Z n0 h ∧ Keep h0 h [] ∧ n0 ≤ b ∧ h0.size ≤ b ∧ Exa Z h b "java/lang/String" ∧ Fld Z h b "java/lang/String" "coder" "B" (.int 0) ∧ Fld Z h b "java/lang/String" "value" "[B" (.ref t) ∧ Arv Z h t k .byte z vs (.int 0) ∧ (StrChars.Road.CodA cs 0 z vs) ∧ (∀ c ∈ cs, ¬ c < 0 ∧ ¬ (255 : Int32) < c) ∧ (cs.length ≤ 4000)
set_option maxRecDepth 65536 in
set_option maxHeartbeats 40000000 in
theorem rm_str (l : Launch) (Z : State) (a0 : Array Value) (hw : ∀ d ∈ tables_1, d.before a0 Z = true) (ws : List Jvm.Cond) (q0 : Addr) (kq : ClassId) (nq : Int32) (c0 : Int32) (c1 : Int32) (c2 : Int32) (c3 : Int32) (c4 : Int32) (c5 : Int32) (c6 : Int32) (c7 : Int32) (c8 : Int32) (Ra : Addr) (Ya : Addr) (Pa : Addr) (Wa : Addr) (Ma : Addr) (Ga : Addr) (Ka : Addr) (Ba : Addr) (Ua : Addr) (Ha : Addr) (La : Int32) (Ia : Value) (h0 : Heap) (n0 : Nat) (O0 : Old Z n0 h0) (hE : EV Z Ra Ya Pa Wa Ma Ga Ka Ba Ua Ha La Ia) (P0 : Arv Z h0 q0 kq .char (9 : Int32) [(.int c0), (.int c1), (.int c2), (.int c3), (.int c4), (.int c5), (.int c6), (.int c7), (.int c8)] (.int 0)) (rc0 : ¬ c0 < 0 ∧ ¬ (255 : Int32) < c0) (rc1 : ¬ c1 < 0 ∧ ¬ (255 : Int32) < c1) (rc2 : ¬ c2 < 0 ∧ ¬ (255 : Int32) < c2) (rc3 : ¬ c3 < 0 ∧ ¬ (255 : Int32) < c3) (rc4 : ¬ c4 < 0 ∧ ¬ (255 : Int32) < c4) (rc5 : ¬ c5 < 0 ∧ ¬ (255 : Int32) < c5) (rc6 : ¬ c6 < 0 ∧ ¬ (255 : Int32) < c6) (rc7 : ¬ c7 < 0 ∧ ¬ (255 : Int32) < c7) (rc8 : ¬ c8 < 0 ∧ ¬ (255 : Int32) < c8) (hn : nq = (0 : Int32) ∨ nq = (1 : Int32) ∨ nq = (2 : Int32) ∨ nq = (3 : Int32) ∨ nq = (4 : Int32) ∨ nq = (5 : Int32) ∨ nq = (6 : Int32) ∨ nq = (7 : Int32) ∨ nq = (8 : Int32) ∨ nq = (9 : Int32)) :
    MetFree l Dt (head1 (Jvm.Cond.code Dt method_3_code 3 (some (.object "java/lang/String")) :: ws) ({ frames := 4, cells := 6, slots := 22, locals := 66 } : Room)) (fun a U => a = #[(.ref q0), (.int nq)] ∧ Z.Warmed39 U.vm ∧ U.heap = h0 ∧ CHv Z Ub U.vm h0) (fun _ _ _ _ _ => True) (fun _ U o U' => ∃ v L, o = .returned v ∧ Km Z q0 kq nq c0 c1 c2 c3 c4 c5 c6 c7 c8 Ra Ya Pa Wa Ma Ga Ka Ba Ua Ha La Ia h0 n0 v U'.heap L ∧ CHr Z Ub U.vm U.heap U'.vm U'.heap ∧ ReturnedEndW U o U' L ({ frames := 4, cells := 6, slots := 22, locals := 66 } : Room).cells ({ frames := 4, cells := 6, slots := 22, locals := 66 } : Room).slots) := by
  refine MetFree.of_bodySF (plainFor_of_name Pg) hisR ?_
  intro p e s m args below meth c s₁ Bd hml0 hP hK
  obtain ⟨rfl, hZ, hh, hCH⟩ := hP
  have hx := Bd.exec
  have hby := Bd.bytes
  have hml : c.maxLocals = 3 := hml0
  have hown : s.vm.findClass "com/example/kwota/kwota/StateNamedPinLaw" = some m.cls := findClass_of_methodNamed Bd.named
  have hnm := (name_of_methodNamed Bd.named Bd.method).1
  have X00 : Stand p l e ({ frames := 4, cells := 6, slots := 22, locals := 66 } : Room) s m #[(.ref q0), (.int nq)] below meth c s₁ [] 0 0 := Stand.of_body Bd
  have e00 : s₁.heap = h0 := by rw [← hh, Bd.state]; rfl
  have N00 := Fr.nil n0
  refine Classical.byContradiction fun hNG => ?_
  have K00 := Keep.refl h0 []
  have k00 : ∀ t, Va p e below m s₁ 0 #[.val (.ref q0), .val (.int nq), .unset] [] t → Ab p e below m s₁ #[(.ref q0), (.int nq)] 3 t := fun t k => castTop (ef_str m q0 nq ) k
  have hS : s.Since s.vm 0 := (State.WarmedH.refl s).since 0
  have X00 : Stand p l e ({ frames := 4, cells := 6, slots := 22, locals := 66 } : Room) (s.setVm s.vm) m #[(.ref q0), (.int nq)] below meth c s₁ [] 0 0 := X00
  have hZ : Z.Warmed39 (s.setVm s.vm).vm := hZ
  have hown : (s.setVm s.vm).vm.findClass "com/example/kwota/kwota/StateNamedPinLaw" = some m.cls := hown
  have CR0 : CHr Z Ub s.vm h0 s.vm h0 := CHr.refl hCH
  obtain ⟨Hh, Mh, Ih, Kh, Rg, Gh, Ki, Li, Dd, Zb, Lb, Mb, Ad, Bc, Pb, Rb, Pd, Hd, Dc, Gc, Bb, Za, Zc, Yc, Lh, Gb, Db, Hb⟩ := (id hE : EV Z Ra Ya Pa Wa Ma Ga Ka Ba Ua Ha La Ia)
  obtain ⟨kw_PENDING_word, Aw_PENDING_word⟩ := Gb.arv
  obtain ⟨kw_APPROVED_word, Aw_APPROVED_word⟩ := Db.arv
  obtain ⟨kw_DENIED_word, Aw_DENIED_word⟩ := Hb.arv
  rcases hn with hs10 | hs10 | hs10 | hs10 | hs10 | hs10 | hs10 | hs10 | hs10 | hs10
  · have k11 : ∀ t, Va p e below m s₁ 0 #[.val (.ref q0), .val (.int 0), .unset] [] t → Ab p e below m s₁ #[(.ref q0), (.int nq)] 3 t := by
      intro t k
      refine k00 t ?_
      rw [hs10]
      exact k
    obtain ⟨T12, h12, c12, X12, e12, E12, A12, st12⟩ := newP X00 hx hZ (Da hw 1 rfl) e00 (g := (mkF m 1 #[.val (.ref q0), .val (.int 0), .unset] [(.int 0)])) rfl (hb hby Ag) rfl (by decide) (cap := 0) (by decide) (by decide) (by decide) (by decide)
    obtain ⟨b12, g12⟩ : ∃ z, z = h0.size := ⟨_, rfl⟩
    have Sf12 : Safe Z Ub _ h12 b12 := Safe.ext E12 CR0.1 (Safe.new (Nat.le_of_eq g12.symm))
    have CR13 := CR0.trans (CHr.ext E12 CR0.1)
    rw [← g12] at A12 st12
    have O12 := O0.ext E12
    have g_b12 : n0 ≤ b12 := Nat.le_trans (Nat.le_of_eq O0.1.symm) (Nat.le_trans O0.2.1 (Nat.le_of_eq g12.symm))
    have s_b12 : h0.size ≤ b12 := Nat.le_trans K00.1 (Nat.le_of_eq g12.symm)
    have K12 := K00.ext E12
    have V12 : Arv Z h12 b12 c12 .char (0 : Int32) [] (.int 0) := (Arv.new A12 (by decide)).pad (pad_rep [] (.int 0) 0)
    have lt_b12 := V12.lt
    obtain ⟨T14, h14, X14, e14, E14, A14, D14, -, st14⟩ := newO X12 hx hZ hown (Da hw 53 rfl) (Da hw 8 rfl) (Da hw 7 rfl) e12 (g := (mkF m 111 #[.val (.ref q0), .val (.int 0), .val (.ref b12)] [])) rfl (hb hby Zd) (by decide) (by decide)
    obtain ⟨b14, g14⟩ : ∃ z, z = h12.size := ⟨_, rfl⟩
    have Sf14 : Safe Z Ub _ h14 b14 := Safe.ext E14 CR13.1 (Safe.new (Nat.le_of_eq g14.symm))
    have CR15 := CR13.trans (CHr.ext E14 CR13.1)
    rw [← g14] at A14 D14 st14
    have O14 := O12.ext E14
    have g_b14 : n0 ≤ b14 := Nat.le_trans (Nat.le_of_eq O12.1.symm) (Nat.le_trans O12.2.1 (Nat.le_of_eq g14.symm))
    have s_b14 : h0.size ≤ b14 := Nat.le_trans K12.1 (Nat.le_of_eq g14.symm)
    have K14 := K12.ext E14
    have lt_b14 := A14.lt
    have F14_value : Fld Z h14 b14 "java/lang/String" "value" "[B" .null := D14 (Or.inr (Da hw 10 rfl)) (ty := (.array .byte)) (by decide)
    have F14_coder : Fld Z h14 b14 "java/lang/String" "coder" "B" (.int 0) := D14 (Or.inr (Da hw 11 rfl)) (ty := .byte) (by decide)
    have f16 := (V12.ext E14)
    obtain ⟨_, _, ⟨T17, L17, k17, n17⟩, -, X17, hS17, hg17, ⟨Lc17, hQ17, l17, y17, z17, hC17⟩, st17⟩ := X14.specialBackS hx (y := Ml) rfl hown (mvT hZ (Da hw 54 rfl)) (mvT hZ (Da hw 55 rfl)) (mvT hZ (Da hw 56 rfl)) (by decide) (backOfSH (W := 1) (rm_i1 l Z a0 hw [] b14 b12 c12 _ _ _ _ _ _ _ _ _ _ _ _ h14 n0 O14 hE A14 F14_value F14_coder f16 g_b14 ) hZ (Da hw 56 rfl) (Da hw 7 rfl) (by decide) (by decide) (Vd hw) CR15.1) (g := (mkF m 116 #[.val (.ref q0), .val (.int 0), .val (.ref b12)] [(.ref b12), (.ref b14), (.ref b14)])) rfl (by rw [hml]; rfl) (Steps.refl _) (a := b14) (argsL := [(.ref b12)]) (rest := [(.ref b14)]) (lenOf Dl rfl) rfl (by show 2 * 0 + _ ≤ _; exact Nat.le_of_eq rfl) (hb hby De) (fun _ _ => ⟨rfl, e14, (by decide : 2 + 4 ≤ _), (by decide : 4 + 8 ≤ _)⟩)
    dsimp only [Pt.U, Pt.locs, Pt.cells, Pt.slots] at X17 l17 y17 z17 st17 hQ17 hS17 hg17 hC17
    subst l17 y17 z17
    obtain ⟨X17, hS, hZ, hown⟩ := rebS hS (by rw [e14]; exact (Nat.le_trans (Nat.le_trans (Nat.zero_le _) E12.1) E14.1)) X17 hS17 hg17 hZ hown
    obtain ⟨t17, k17, rfl, N17q, O17, Kc17, F17_0, F17_1, F17_2, F17_3⟩ := hQ17
    have N17 := Fr.app N00 N17q
    have CR18 := CR15.trans hC17
    have K17 := K14.trans Kc17 (allS (Or.inr s_b14) all0)
    have lt_t17 := F17_3.lt
    have k19 : ∀ t, Va p e below m T17 119 #[.val (.ref q0), .val (.int 0), .val (.ref b12)] [(.ref b14)] t → Ab p e below m s₁ #[(.ref q0), (.int nq)] 3 t := by
      intro t k
      refine k11 t ?_
      refine XS.iloadN X00.here hx rfl (hb hby Zf) rfl ?_
      refine st12 _ ?_
      refine XS.astoreN X12.here hx rfl (hb hby Bg) rfl rfl (l' := #[.val (.ref q0), .val (.int 0), .val (.ref b12)]) rfl ?_
      refine XS.iloadN X12.here hx rfl (hb hby Dg) rfl ?_
      refine XS.ifYes X12.here hx rfl (pc0 := 5) (pc' := 14) rfl (hb hby Gg) rfl ((if0 _ _).trans (flt (by decide : ¬ ((0 : Int32) < (0 : Int32)))).2.2.2) (by decide) (by decide) ?_
      refine XS.iloadN X12.here hx rfl (hb hby Ke) rfl ?_
      refine XS.iconst X12.here hx rfl (hb hby Le) ?_
      refine XS.icmpYes X12.here hx rfl (pc0 := 16) (pc' := 25) rfl (hb hby Me) rfl (flt (by decide : ¬ ((1 : Int32) < (0 : Int32)))).2.2.2 (by decide) (by decide) ?_
      show Va p e below m T12 25 #[.val (.ref q0), .val (.int 0), .val (.ref b12)] [] t
      refine XS.iloadN X12.here hx rfl (hb hby Pe) rfl ?_
      refine XS.iconst X12.here hx rfl (hb hby Re) ?_
      refine XS.icmpYes X12.here hx rfl (pc0 := 27) (pc' := 36) rfl (hb hby Ue) rfl (flt (by decide : ¬ ((2 : Int32) < (0 : Int32)))).2.2.2 (by decide) (by decide) ?_
      refine XS.iloadN X12.here hx rfl (hb hby Ve) rfl ?_
      refine XS.iconst X12.here hx rfl (hb hby We) ?_
      refine XS.icmpYes X12.here hx rfl (pc0 := 38) (pc' := 47) rfl (hb hby Ye) rfl (flt (by decide : ¬ ((3 : Int32) < (0 : Int32)))).2.2.2 (by decide) (by decide) ?_
      refine XS.iloadN X12.here hx rfl (hb hby Ze) rfl ?_
      refine XS.iconst X12.here hx rfl (hb hby Af) ?_
      show Va p e below m T12 49 #[.val (.ref q0), .val (.int 0), .val (.ref b12)] [(.int 4), (.int 0)] t
      refine XS.icmpYes X12.here hx rfl (pc0 := 49) (pc' := 58) rfl (hb hby Bf) rfl (flt (by decide : ¬ ((4 : Int32) < (0 : Int32)))).2.2.2 (by decide) (by decide) ?_
      refine XS.iloadN X12.here hx rfl (hb hby Df) rfl ?_
      refine XS.iconst X12.here hx rfl (hb hby Gf) ?_
      refine XS.icmpYes X12.here hx rfl (pc0 := 60) (pc' := 69) rfl (hb hby Hf) rfl (flt (by decide : ¬ ((5 : Int32) < (0 : Int32)))).2.2.2 (by decide) (by decide) ?_
      refine XS.iloadN X12.here hx rfl (hb hby Kf) rfl ?_
      refine XS.bipush X12.here hx rfl (hb hby Lf) ?_
      refine XS.icmpYes X12.here hx rfl (pc0 := 72) (pc' := 83) rfl (hb hby Mf) rfl (flt (by decide : ¬ ((6 : Int32) < (0 : Int32)))).2.2.2 (by decide) (by decide) ?_
      refine XS.iloadN X12.here hx rfl (hb hby Pf) rfl ?_
      show Va p e below m T12 84 #[.val (.ref q0), .val (.int 0), .val (.ref b12)] [(.int 0)] t
      refine XS.bipush X12.here hx rfl (hb hby Rf) ?_
      refine XS.icmpYes X12.here hx rfl (pc0 := 86) (pc' := 97) rfl (hb hby Uf) rfl (flt (by decide : ¬ ((7 : Int32) < (0 : Int32)))).2.2.2 (by decide) (by decide) ?_
      refine XS.iloadN X12.here hx rfl (hb hby Vf) rfl ?_
      refine XS.bipush X12.here hx rfl (hb hby Wf) ?_
      refine XS.icmpYes X12.here hx rfl (pc0 := 100) (pc' := 111) rfl (hb hby Yd) rfl (flt (by decide : ¬ ((8 : Int32) < (0 : Int32)))).2.2.2 (by decide) (by decide) ?_
      refine st14 _ ?_
      refine XS.dup X14.here hx rfl (hb hby Ae) rfl rfl ?_
      refine XS.aloadN X14.here hx rfl (hb hby Be) rfl rfl ?_
      show Va p e below m T14 116 #[.val (.ref q0), .val (.int 0), .val (.ref b12)] [(.ref b12), (.ref b14), (.ref b14)] t
      refine st17.trans ?_
      exact k
    obtain ⟨fs, hr, hrun, hended, hRW⟩ := X17.leaveW hS (by exact (Nat.le_refl _)) (v := some (.ref b14)) (fun h => by rw [Bd.returns] at h; cases h)
    refine hNG ⟨_, _, k19 _ ?_, hrun, hended, _, _, rfl, ?_, by rw [hh]; show CHr Z Ub s.vm h0 T17.vm T17.heap; exact CR18.trans (CHv.at X17 hZ (Vd hw) CR18.1), hRW.1, hRW.2.1, hRW.2.2.1, hRW.2.2.2.mono (by decide) (by decide)⟩
    · exact retOut X17 hx (t := (.object "java/lang/String")) Bd.returns rfl (Or.inr (Or.inr (Or.inr (Or.inr ⟨rfl, rfl, rfl⟩)))) (hb hby Ge) hr
    · show Km Z q0 kq nq c0 c1 c2 c3 c4 c5 c6 c7 c8 Ra Ya Pa Wa Ma Ga Ka Ba Ua Ha La Ia h0 n0 _ T17.heap _
      exact ⟨b14, t17, k17, (0 : Int32), [], [], rfl, N17, O17, K17, g_b14, s_b14, F17_0, F17_1, F17_2, F17_3, StrChars.Road.codOf (cs := []) (n := 0) rfl (fun c hc => nomatch hc), (fun c hc => nomatch hc), (Nat.le_of_ble_eq_true rfl)⟩
  · have k20 : ∀ t, Va p e below m s₁ 0 #[.val (.ref q0), .val (.int 1), .unset] [] t → Ab p e below m s₁ #[(.ref q0), (.int nq)] 3 t := by
      intro t k
      refine k00 t ?_
      rw [hs10]
      exact k
    obtain ⟨T21, h21, c21, X21, e21, E21, A21, st21⟩ := newP X00 hx hZ (Da hw 1 rfl) e00 (g := (mkF m 1 #[.val (.ref q0), .val (.int 1), .unset] [(.int 1)])) rfl (hb hby Ag) rfl (by decide) (cap := 1) (by decide) (by decide) (by decide) (by decide)
    obtain ⟨b21, g21⟩ : ∃ z, z = h0.size := ⟨_, rfl⟩
    have Sf21 : Safe Z Ub _ h21 b21 := Safe.ext E21 CR0.1 (Safe.new (Nat.le_of_eq g21.symm))
    have CR22 := CR0.trans (CHr.ext E21 CR0.1)
    rw [← g21] at A21 st21
    have O21 := O0.ext E21
    have g_b21 : n0 ≤ b21 := Nat.le_trans (Nat.le_of_eq O0.1.symm) (Nat.le_trans O0.2.1 (Nat.le_of_eq g21.symm))
    have s_b21 : h0.size ≤ b21 := Nat.le_trans K00.1 (Nat.le_of_eq g21.symm)
    have K21 := K00.ext E21
    have V21 : Arv Z h21 b21 c21 .char (1 : Int32) [(.int 0)] (.int 0) := (Arv.new A21 (by decide)).pad (pad_rep [] (.int 0) 1)
    have lt_b21 := V21.lt
    have f23 := (P0.ext E21)
    obtain ⟨cl24, Ar24, q24, Sz24, Nn24, Hs24, Gf24⟩ := id f23
    have hin25 : ¬ ((0 : Int32) < 0 ∨ cl24.slots.size ≤ ((0 : Int32)).toNatClampNeg) := inb_of Sz24 ⟨by decide, by decide⟩
    have hat26 : cl24.slots[((0 : Int32)).toNatClampNeg]? = some (.int c0) := Hs24.at hin25 rfl
    obtain ⟨cl27, Ar27, q27, Sz27, Nn27, Hs27, Gf27⟩ := id V21
    have hin28 : ¬ ((0 : Int32) < 0 ∨ cl27.slots.size ≤ ((0 : Int32)).toNatClampNeg) := inb_of Sz27 ⟨by decide, by decide⟩
    obtain ⟨T29, h29, X29, e29, W29, st29⟩ := stC X21 hx hZ e21 Ar27 (j := (0 : Int32)) hin28 (g := (mkF m 13 #[.val (.ref q0), .val (.int 1), .val (.ref b21)] [(.int c0), (.int 0), (.ref b21)])) rfl rfl (hb hby Mg)
    have V29 : Arv Z h29 b21 c21 .char (1 : Int32) [(.int c0)] (.int 0) := by
      have q := Arv.set Ar27 q27 Sz27 Nn27 Hs27 Gf27 (fits_nar_char _) W29 0 rfl (Nat.le_of_ble_eq_true rfl)
      first | exact q | (simp only [Aa rc0, Aa rc1, Aa rc2, Aa rc3, Aa rc4, Aa rc5, Aa rc6, Aa rc7, Aa rc8] at q; exact q)
    have CR30 := CR22.trans (CHr.wr W29 Sf21 CR22.1)
    have N29 := Fr.snoc X29 N00 g_b21
    have O29 := O21.wr W29 g_b21
    have K29 := K21.wr W29 (Or.inr s_b21)
    obtain ⟨T31, h31, X31, e31, E31, A31, D31, -, st31⟩ := newO X29 hx hZ hown (Da hw 53 rfl) (Da hw 8 rfl) (Da hw 7 rfl) e29 (g := (mkF m 111 #[.val (.ref q0), .val (.int 1), .val (.ref b21)] [])) rfl (hb hby Zd) (by decide) (by decide)
    obtain ⟨b31, g31⟩ : ∃ z, z = h29.size := ⟨_, rfl⟩
    have Sf31 : Safe Z Ub _ h31 b31 := Safe.ext E31 CR30.1 (Safe.new (Nat.le_of_eq g31.symm))
    have CR32 := CR30.trans (CHr.ext E31 CR30.1)
    rw [← g31] at A31 D31 st31
    have O31 := O29.ext E31
    have g_b31 : n0 ≤ b31 := Nat.le_trans (Nat.le_of_eq O29.1.symm) (Nat.le_trans O29.2.1 (Nat.le_of_eq g31.symm))
    have s_b31 : h0.size ≤ b31 := Nat.le_trans K29.1 (Nat.le_of_eq g31.symm)
    have K31 := K29.ext E31
    have lt_b31 := A31.lt
    have F31_value : Fld Z h31 b31 "java/lang/String" "value" "[B" .null := D31 (Or.inr (Da hw 10 rfl)) (ty := (.array .byte)) (by decide)
    have F31_coder : Fld Z h31 b31 "java/lang/String" "coder" "B" (.int 0) := D31 (Or.inr (Da hw 11 rfl)) (ty := .byte) (by decide)
    have k33 : ∀ t, Va p e below m T31 116 #[.val (.ref q0), .val (.int 1), .val (.ref b21)] [(.ref b21), (.ref b31), (.ref b31)] t → Ab p e below m s₁ #[(.ref q0), (.int nq)] 3 t := by
      intro t k
      refine k20 t ?_
      refine XS.iloadN X00.here hx rfl (hb hby Zf) rfl ?_
      refine st21 _ ?_
      refine XS.astoreN X21.here hx rfl (hb hby Bg) rfl rfl (l' := #[.val (.ref q0), .val (.int 1), .val (.ref b21)]) rfl ?_
      refine XS.iloadN X21.here hx rfl (hb hby Dg) rfl ?_
      refine XS.ifNo X21.here hx rfl (hb hby Gg) rfl ((if0 _ _).trans (tlt (by decide : (0 : Int32) < (1 : Int32))).2.2.2) ?_
      refine XS.aloadN X21.here hx rfl (hb hby Ug) rfl rfl ?_
      refine XS.iconst X21.here hx rfl (hb hby Vg) ?_
      refine XS.aloadN X21.here hx rfl (hb hby Ig) rfl rfl ?_
      show Va p e below m T21 11 #[.val (.ref q0), .val (.int 1), .val (.ref b21)] [(.ref q0), (.int 0), (.ref b21)] t
      refine XS.iconst X21.here hx rfl (hb hby Kg) ?_
      refine X21.caload hx (j := (0 : Int32)) (v := (.int c0)) (by rw [e21]; exact Ar24.1) (State.isArrayOf_alike hZ.alike Ar24.2.1) Ar24.2.2 hin25 hat26 (g := (mkF m 12 #[.val (.ref q0), .val (.int 1), .val (.ref b21)] [(.int 0), (.ref q0), (.int 0), (.ref b21)])) rfl rfl (hb hby Lg) _ ?_
      refine st29 _ ?_
      refine XS.iloadN X29.here hx rfl (hb hby Ke) rfl ?_
      refine XS.iconst X29.here hx rfl (hb hby Le) ?_
      refine XS.icmpYes X29.here hx rfl (pc0 := 16) (pc' := 25) rfl (hb hby Me) rfl (flt (by decide : ¬ ((1 : Int32) < (1 : Int32)))).2.2.2 (by decide) (by decide) ?_
      refine XS.iloadN X29.here hx rfl (hb hby Pe) rfl ?_
      refine XS.iconst X29.here hx rfl (hb hby Re) ?_
      show Va p e below m T29 27 #[.val (.ref q0), .val (.int 1), .val (.ref b21)] [(.int 2), (.int 1)] t
      refine XS.icmpYes X29.here hx rfl (pc0 := 27) (pc' := 36) rfl (hb hby Ue) rfl (flt (by decide : ¬ ((2 : Int32) < (1 : Int32)))).2.2.2 (by decide) (by decide) ?_
      refine XS.iloadN X29.here hx rfl (hb hby Ve) rfl ?_
      refine XS.iconst X29.here hx rfl (hb hby We) ?_
      refine XS.icmpYes X29.here hx rfl (pc0 := 38) (pc' := 47) rfl (hb hby Ye) rfl (flt (by decide : ¬ ((3 : Int32) < (1 : Int32)))).2.2.2 (by decide) (by decide) ?_
      refine XS.iloadN X29.here hx rfl (hb hby Ze) rfl ?_
      refine XS.iconst X29.here hx rfl (hb hby Af) ?_
      refine XS.icmpYes X29.here hx rfl (pc0 := 49) (pc' := 58) rfl (hb hby Bf) rfl (flt (by decide : ¬ ((4 : Int32) < (1 : Int32)))).2.2.2 (by decide) (by decide) ?_
      refine XS.iloadN X29.here hx rfl (hb hby Df) rfl ?_
      show Va p e below m T29 59 #[.val (.ref q0), .val (.int 1), .val (.ref b21)] [(.int 1)] t
      refine XS.iconst X29.here hx rfl (hb hby Gf) ?_
      refine XS.icmpYes X29.here hx rfl (pc0 := 60) (pc' := 69) rfl (hb hby Hf) rfl (flt (by decide : ¬ ((5 : Int32) < (1 : Int32)))).2.2.2 (by decide) (by decide) ?_
      refine XS.iloadN X29.here hx rfl (hb hby Kf) rfl ?_
      refine XS.bipush X29.here hx rfl (hb hby Lf) ?_
      refine XS.icmpYes X29.here hx rfl (pc0 := 72) (pc' := 83) rfl (hb hby Mf) rfl (flt (by decide : ¬ ((6 : Int32) < (1 : Int32)))).2.2.2 (by decide) (by decide) ?_
      refine XS.iloadN X29.here hx rfl (hb hby Pf) rfl ?_
      refine XS.bipush X29.here hx rfl (hb hby Rf) ?_
      refine XS.icmpYes X29.here hx rfl (pc0 := 86) (pc' := 97) rfl (hb hby Uf) rfl (flt (by decide : ¬ ((7 : Int32) < (1 : Int32)))).2.2.2 (by decide) (by decide) ?_
      show Va p e below m T29 97 #[.val (.ref q0), .val (.int 1), .val (.ref b21)] [] t
      refine XS.iloadN X29.here hx rfl (hb hby Vf) rfl ?_
      refine XS.bipush X29.here hx rfl (hb hby Wf) ?_
      refine XS.icmpYes X29.here hx rfl (pc0 := 100) (pc' := 111) rfl (hb hby Yd) rfl (flt (by decide : ¬ ((8 : Int32) < (1 : Int32)))).2.2.2 (by decide) (by decide) ?_
      refine st31 _ ?_
      refine XS.dup X31.here hx rfl (hb hby Ae) rfl rfl ?_
      refine XS.aloadN X31.here hx rfl (hb hby Be) rfl rfl ?_
      exact k
    have f34 := (V29.ext E31)
    have hp35 : ∀ c ∈ ([c0] : List Int32), ¬ c < 0 ∧ ¬ (255 : Int32) < c := (fun c hc => by rw [List.mem_singleton.mp hc]; exact rc0)
    obtain ⟨_, _, ⟨T36, L36, k36, n36⟩, -, X36, ⟨Lc36, hQ36, l36, y36, z36⟩, st36⟩ := X31.specialBack hx (y := Ml) rfl hown (mvT hZ (Da hw 54 rfl)) (mvT hZ (Da hw 55 rfl)) (mvT hZ (Da hw 56 rfl)) (by decide) (StrChars.Road.backV (W := 1) hZ (Hm hw) (kI := 4) (Da hw 8 rfl) (cs := ([c0] : List Int32)) (bs := (([c0] : List Int32)).map (fun c => c.toInt8.toInt32)) (n := 1) g_b31 (Nat.le_trans (Nat.le_of_eq O31.1.symm) O31.2.1) A31 F31_value F31_coder f34 (Bb.ext O31.2) Za rfl rfl (by decide) (by decide) hp35 rfl (by decide) (by decide)) (g := (mkF m 116 #[.val (.ref q0), .val (.int 1), .val (.ref b21)] [(.ref b21), (.ref b31), (.ref b31)])) rfl (by rw [hml]; rfl) (Steps.refl _) (a := b31) (argsL := [(.ref b21)]) (rest := [(.ref b31)]) (lenOf Dl rfl) rfl (by show 2 * 0 + _ ≤ _; exact Nat.le_of_eq rfl) (hb hby De) (fun _ _ => ⟨rfl, e31, (by decide : 2 + 1 ≤ _), (by decide : 5 + 1 ≤ _)⟩)
    dsimp only [Pt.U, Pt.locs, Pt.cells, Pt.slots] at X36 l36 y36 z36 st36 hQ36
    subst l36 y36 z36
    obtain ⟨rfl, N36q, Kc36, Ex36, Fc36, t36, kb36, g_t36, gs_t36, nx36, Fv36, Av36⟩ := hQ36
    have N36 := Fr.app N29 N36q
    have O36 := O31.keep Kc36 (allS g_b31 all0)
    have CR37 := CR32.trans (CHr.keep Kc36 (allS Sf31 all0) CR32.1)
    have K36 := K31.trans Kc36 (allS (Or.inr s_b31) all0)
    have s_t36 := Nat.le_trans K31.1 gs_t36
    have lt_t36 := Av36.lt
    have k38 : ∀ t, Va p e below m T36 119 #[.val (.ref q0), .val (.int 1), .val (.ref b21)] [(.ref b31)] t → Ab p e below m s₁ #[(.ref q0), (.int nq)] 3 t := by
      intro t k
      refine k33 t ?_
      refine st36.trans ?_
      exact k
    obtain ⟨fs, hr, hrun, hended, hRW⟩ := X36.leaveW hS (by exact (Nat.le_trans (Nat.le_trans (Nat.le_trans (Nat.le_trans (Nat.zero_le _) E21.1) (Keep.of_wr W29).1) E31.1) Kc36.1)) (v := some (.ref b31)) (fun h => by rw [Bd.returns] at h; cases h)
    refine hNG ⟨_, _, k38 _ ?_, hrun, hended, _, _, rfl, ?_, by rw [hh]; show CHr Z Ub s.vm h0 T36.vm T36.heap; exact CR37.trans (CHv.at X36 hZ (Vd hw) CR37.1), hRW.1, hRW.2.1, hRW.2.2.1, hRW.2.2.2.mono (by decide) (by decide)⟩
    · exact retOut X36 hx (t := (.object "java/lang/String")) Bd.returns rfl (Or.inr (Or.inr (Or.inr (Or.inr ⟨rfl, rfl, rfl⟩)))) (hb hby Ge) hr
    · show Km Z q0 kq nq c0 c1 c2 c3 c4 c5 c6 c7 c8 Ra Ya Pa Wa Ma Ga Ka Ba Ua Ha La Ia h0 n0 _ T36.heap _
      exact ⟨b31, t36, kb36, (1 : Int32), ((([c0] : List Int32)).map (fun c => c.toInt8.toInt32)).map Value.int, ([c0] : List Int32), rfl, N36, O36, K36, g_b31, s_b31, Ex36, Fc36, Fv36, Av36, StrChars.Road.codOf (cs := ([c0] : List Int32)) (n := 1) rfl (fun c hc => (hp35 c hc).2), hp35, (Nat.le_of_ble_eq_true rfl)⟩
  · have k39 : ∀ t, Va p e below m s₁ 0 #[.val (.ref q0), .val (.int 2), .unset] [] t → Ab p e below m s₁ #[(.ref q0), (.int nq)] 3 t := by
      intro t k
      refine k00 t ?_
      rw [hs10]
      exact k
    obtain ⟨T40, h40, c40, X40, e40, E40, A40, st40⟩ := newP X00 hx hZ (Da hw 1 rfl) e00 (g := (mkF m 1 #[.val (.ref q0), .val (.int 2), .unset] [(.int 2)])) rfl (hb hby Ag) rfl (by decide) (cap := 2) (by decide) (by decide) (by decide) (by decide)
    obtain ⟨b40, g40⟩ : ∃ z, z = h0.size := ⟨_, rfl⟩
    have Sf40 : Safe Z Ub _ h40 b40 := Safe.ext E40 CR0.1 (Safe.new (Nat.le_of_eq g40.symm))
    have CR41 := CR0.trans (CHr.ext E40 CR0.1)
    rw [← g40] at A40 st40
    have O40 := O0.ext E40
    have g_b40 : n0 ≤ b40 := Nat.le_trans (Nat.le_of_eq O0.1.symm) (Nat.le_trans O0.2.1 (Nat.le_of_eq g40.symm))
    have s_b40 : h0.size ≤ b40 := Nat.le_trans K00.1 (Nat.le_of_eq g40.symm)
    have K40 := K00.ext E40
    have V40 : Arv Z h40 b40 c40 .char (2 : Int32) [(.int 0), (.int 0)] (.int 0) := (Arv.new A40 (by decide)).pad (pad_rep [] (.int 0) 2)
    have lt_b40 := V40.lt
    have f42 := (P0.ext E40)
    obtain ⟨cl43, Ar43, q43, Sz43, Nn43, Hs43, Gf43⟩ := id f42
    have hin44 : ¬ ((0 : Int32) < 0 ∨ cl43.slots.size ≤ ((0 : Int32)).toNatClampNeg) := inb_of Sz43 ⟨by decide, by decide⟩
    have hat45 : cl43.slots[((0 : Int32)).toNatClampNeg]? = some (.int c0) := Hs43.at hin44 rfl
    obtain ⟨cl46, Ar46, q46, Sz46, Nn46, Hs46, Gf46⟩ := id V40
    have hin47 : ¬ ((0 : Int32) < 0 ∨ cl46.slots.size ≤ ((0 : Int32)).toNatClampNeg) := inb_of Sz46 ⟨by decide, by decide⟩
    obtain ⟨T48, h48, X48, e48, W48, st48⟩ := stC X40 hx hZ e40 Ar46 (j := (0 : Int32)) hin47 (g := (mkF m 13 #[.val (.ref q0), .val (.int 2), .val (.ref b40)] [(.int c0), (.int 0), (.ref b40)])) rfl rfl (hb hby Mg)
    have V48 : Arv Z h48 b40 c40 .char (2 : Int32) [(.int c0), (.int 0)] (.int 0) := by
      have q := Arv.set Ar46 q46 Sz46 Nn46 Hs46 Gf46 (fits_nar_char _) W48 0 rfl (Nat.le_of_ble_eq_true rfl)
      first | exact q | (simp only [Aa rc0, Aa rc1, Aa rc2, Aa rc3, Aa rc4, Aa rc5, Aa rc6, Aa rc7, Aa rc8] at q; exact q)
    have CR49 := CR41.trans (CHr.wr W48 Sf40 CR41.1)
    have N48 := Fr.snoc X48 N00 g_b40
    have O48 := O40.wr W48 g_b40
    have K48 := K40.wr W48 (Or.inr s_b40)
    have ne50 : ¬ (q0 = b40) := (Nat.ne_of_lt (Nat.lt_of_lt_of_le P0.lt (Nat.le_of_eq g40.symm)))
    have f51 := (f42.other W48 ne50)
    obtain ⟨cl52, Ar52, q52, Sz52, Nn52, Hs52, Gf52⟩ := id f51
    have hin53 : ¬ ((1 : Int32) < 0 ∨ cl52.slots.size ≤ ((1 : Int32)).toNatClampNeg) := inb_of Sz52 ⟨by decide, by decide⟩
    have hat54 : cl52.slots[((1 : Int32)).toNatClampNeg]? = some (.int c1) := Hs52.at hin53 rfl
    obtain ⟨cl55, Ar55, q55, Sz55, Nn55, Hs55, Gf55⟩ := id V48
    have hin56 : ¬ ((1 : Int32) < 0 ∨ cl55.slots.size ≤ ((1 : Int32)).toNatClampNeg) := inb_of Sz55 ⟨by decide, by decide⟩
    obtain ⟨T57, h57, X57, e57, W57, st57⟩ := stC X48 hx hZ e48 Ar55 (j := (1 : Int32)) hin56 (g := (mkF m 24 #[.val (.ref q0), .val (.int 2), .val (.ref b40)] [(.int c1), (.int 1), (.ref b40)])) rfl rfl (hb hby Dh)
    have V57 : Arv Z h57 b40 c40 .char (2 : Int32) [(.int c0), (.int c1)] (.int 0) := by
      have q := Arv.set Ar55 q55 Sz55 Nn55 Hs55 Gf55 (fits_nar_char _) W57 1 rfl (Nat.le_of_ble_eq_true rfl)
      first | exact q | (simp only [Aa rc0, Aa rc1, Aa rc2, Aa rc3, Aa rc4, Aa rc5, Aa rc6, Aa rc7, Aa rc8] at q; exact q)
    have sf59 := (Safe.wr W48 Sf40 CR41.1 Sf40)
    have CR58 := CR49.trans (CHr.wr W57 sf59 CR49.1)
    have N57 := Fr.snoc X57 N48 g_b40
    have O57 := O48.wr W57 g_b40
    have K57 := K48.wr W57 (Or.inr s_b40)
    obtain ⟨T60, h60, X60, e60, E60, A60, D60, -, st60⟩ := newO X57 hx hZ hown (Da hw 53 rfl) (Da hw 8 rfl) (Da hw 7 rfl) e57 (g := (mkF m 111 #[.val (.ref q0), .val (.int 2), .val (.ref b40)] [])) rfl (hb hby Zd) (by decide) (by decide)
    obtain ⟨b60, g60⟩ : ∃ z, z = h57.size := ⟨_, rfl⟩
    have Sf60 : Safe Z Ub _ h60 b60 := Safe.ext E60 CR58.1 (Safe.new (Nat.le_of_eq g60.symm))
    have CR61 := CR58.trans (CHr.ext E60 CR58.1)
    rw [← g60] at A60 D60 st60
    have O60 := O57.ext E60
    have g_b60 : n0 ≤ b60 := Nat.le_trans (Nat.le_of_eq O57.1.symm) (Nat.le_trans O57.2.1 (Nat.le_of_eq g60.symm))
    have s_b60 : h0.size ≤ b60 := Nat.le_trans K57.1 (Nat.le_of_eq g60.symm)
    have K60 := K57.ext E60
    have lt_b60 := A60.lt
    have F60_value : Fld Z h60 b60 "java/lang/String" "value" "[B" .null := D60 (Or.inr (Da hw 10 rfl)) (ty := (.array .byte)) (by decide)
    have F60_coder : Fld Z h60 b60 "java/lang/String" "coder" "B" (.int 0) := D60 (Or.inr (Da hw 11 rfl)) (ty := .byte) (by decide)
    have k62 : ∀ t, Va p e below m T60 116 #[.val (.ref q0), .val (.int 2), .val (.ref b40)] [(.ref b40), (.ref b60), (.ref b60)] t → Ab p e below m s₁ #[(.ref q0), (.int nq)] 3 t := by
      intro t k
      refine k39 t ?_
      refine XS.iloadN X00.here hx rfl (hb hby Zf) rfl ?_
      refine st40 _ ?_
      refine XS.astoreN X40.here hx rfl (hb hby Bg) rfl rfl (l' := #[.val (.ref q0), .val (.int 2), .val (.ref b40)]) rfl ?_
      refine XS.iloadN X40.here hx rfl (hb hby Dg) rfl ?_
      refine XS.ifNo X40.here hx rfl (hb hby Gg) rfl ((if0 _ _).trans (tlt (by decide : (0 : Int32) < (2 : Int32))).2.2.2) ?_
      refine XS.aloadN X40.here hx rfl (hb hby Ug) rfl rfl ?_
      refine XS.iconst X40.here hx rfl (hb hby Vg) ?_
      refine XS.aloadN X40.here hx rfl (hb hby Ig) rfl rfl ?_
      show Va p e below m T40 11 #[.val (.ref q0), .val (.int 2), .val (.ref b40)] [(.ref q0), (.int 0), (.ref b40)] t
      refine XS.iconst X40.here hx rfl (hb hby Kg) ?_
      refine X40.caload hx (j := (0 : Int32)) (v := (.int c0)) (by rw [e40]; exact Ar43.1) (State.isArrayOf_alike hZ.alike Ar43.2.1) Ar43.2.2 hin44 hat45 (g := (mkF m 12 #[.val (.ref q0), .val (.int 2), .val (.ref b40)] [(.int 0), (.ref q0), (.int 0), (.ref b40)])) rfl rfl (hb hby Lg) _ ?_
      refine st48 _ ?_
      refine XS.iloadN X48.here hx rfl (hb hby Ke) rfl ?_
      refine XS.iconst X48.here hx rfl (hb hby Le) ?_
      refine XS.icmpNo X48.here hx rfl (hb hby Me) rfl (tlt (by decide : (1 : Int32) < (2 : Int32))).2.2.2 ?_
      refine XS.aloadN X48.here hx rfl (hb hby Wg) rfl rfl ?_
      refine XS.iconst X48.here hx rfl (hb hby Yg) ?_
      show Va p e below m T48 21 #[.val (.ref q0), .val (.int 2), .val (.ref b40)] [(.int 1), (.ref b40)] t
      refine XS.aloadN X48.here hx rfl (hb hby Zg) rfl rfl ?_
      refine XS.iconst X48.here hx rfl (hb hby Ah) ?_
      refine X48.caload hx (j := (1 : Int32)) (v := (.int c1)) (by rw [e48]; exact Ar52.1) (State.isArrayOf_alike hZ.alike Ar52.2.1) Ar52.2.2 hin53 hat54 (g := (mkF m 23 #[.val (.ref q0), .val (.int 2), .val (.ref b40)] [(.int 1), (.ref q0), (.int 1), (.ref b40)])) rfl rfl (hb hby Bh) _ ?_
      refine st57 _ ?_
      refine XS.iloadN X57.here hx rfl (hb hby Pe) rfl ?_
      refine XS.iconst X57.here hx rfl (hb hby Re) ?_
      refine XS.icmpYes X57.here hx rfl (pc0 := 27) (pc' := 36) rfl (hb hby Ue) rfl (flt (by decide : ¬ ((2 : Int32) < (2 : Int32)))).2.2.2 (by decide) (by decide) ?_
      refine XS.iloadN X57.here hx rfl (hb hby Ve) rfl ?_
      show Va p e below m T57 37 #[.val (.ref q0), .val (.int 2), .val (.ref b40)] [(.int 2)] t
      refine XS.iconst X57.here hx rfl (hb hby We) ?_
      refine XS.icmpYes X57.here hx rfl (pc0 := 38) (pc' := 47) rfl (hb hby Ye) rfl (flt (by decide : ¬ ((3 : Int32) < (2 : Int32)))).2.2.2 (by decide) (by decide) ?_
      refine XS.iloadN X57.here hx rfl (hb hby Ze) rfl ?_
      refine XS.iconst X57.here hx rfl (hb hby Af) ?_
      refine XS.icmpYes X57.here hx rfl (pc0 := 49) (pc' := 58) rfl (hb hby Bf) rfl (flt (by decide : ¬ ((4 : Int32) < (2 : Int32)))).2.2.2 (by decide) (by decide) ?_
      refine XS.iloadN X57.here hx rfl (hb hby Df) rfl ?_
      refine XS.iconst X57.here hx rfl (hb hby Gf) ?_
      refine XS.icmpYes X57.here hx rfl (pc0 := 60) (pc' := 69) rfl (hb hby Hf) rfl (flt (by decide : ¬ ((5 : Int32) < (2 : Int32)))).2.2.2 (by decide) (by decide) ?_
      show Va p e below m T57 69 #[.val (.ref q0), .val (.int 2), .val (.ref b40)] [] t
      refine XS.iloadN X57.here hx rfl (hb hby Kf) rfl ?_
      refine XS.bipush X57.here hx rfl (hb hby Lf) ?_
      refine XS.icmpYes X57.here hx rfl (pc0 := 72) (pc' := 83) rfl (hb hby Mf) rfl (flt (by decide : ¬ ((6 : Int32) < (2 : Int32)))).2.2.2 (by decide) (by decide) ?_
      refine XS.iloadN X57.here hx rfl (hb hby Pf) rfl ?_
      refine XS.bipush X57.here hx rfl (hb hby Rf) ?_
      refine XS.icmpYes X57.here hx rfl (pc0 := 86) (pc' := 97) rfl (hb hby Uf) rfl (flt (by decide : ¬ ((7 : Int32) < (2 : Int32)))).2.2.2 (by decide) (by decide) ?_
      refine XS.iloadN X57.here hx rfl (hb hby Vf) rfl ?_
      refine XS.bipush X57.here hx rfl (hb hby Wf) ?_
      show Va p e below m T57 100 #[.val (.ref q0), .val (.int 2), .val (.ref b40)] [(.int 8), (.int 2)] t
      refine XS.icmpYes X57.here hx rfl (pc0 := 100) (pc' := 111) rfl (hb hby Yd) rfl (flt (by decide : ¬ ((8 : Int32) < (2 : Int32)))).2.2.2 (by decide) (by decide) ?_
      refine st60 _ ?_
      refine XS.dup X60.here hx rfl (hb hby Ae) rfl rfl ?_
      refine XS.aloadN X60.here hx rfl (hb hby Be) rfl rfl ?_
      exact k
    have f63 := (V57.ext E60)
    have hp64 : ∀ c ∈ ([c0, c1] : List Int32), ¬ c < 0 ∧ ¬ (255 : Int32) < c := (by simp only [List.mem_cons, List.not_mem_nil, or_false, forall_eq_or_imp, forall_eq]; exact ⟨rc0, rc1⟩)
    obtain ⟨_, _, ⟨T65, L65, k65, n65⟩, -, X65, ⟨Lc65, hQ65, l65, y65, z65⟩, st65⟩ := X60.specialBack hx (y := Ml) rfl hown (mvT hZ (Da hw 54 rfl)) (mvT hZ (Da hw 55 rfl)) (mvT hZ (Da hw 56 rfl)) (by decide) (StrChars.Road.backV (W := 1) hZ (Hm hw) (kI := 4) (Da hw 8 rfl) (cs := ([c0, c1] : List Int32)) (bs := (([c0, c1] : List Int32)).map (fun c => c.toInt8.toInt32)) (n := 2) g_b60 (Nat.le_trans (Nat.le_of_eq O60.1.symm) O60.2.1) A60 F60_value F60_coder f63 (Bb.ext O60.2) Za rfl rfl (by decide) (by decide) hp64 rfl (by decide) (by decide)) (g := (mkF m 116 #[.val (.ref q0), .val (.int 2), .val (.ref b40)] [(.ref b40), (.ref b60), (.ref b60)])) rfl (by rw [hml]; rfl) (Steps.refl _) (a := b60) (argsL := [(.ref b40)]) (rest := [(.ref b60)]) (lenOf Dl rfl) rfl (by show 2 * 0 + _ ≤ _; exact Nat.le_of_eq rfl) (hb hby De) (fun _ _ => ⟨rfl, e60, (by decide : 2 + 1 ≤ _), (by decide : 6 + 2 ≤ _)⟩)
    dsimp only [Pt.U, Pt.locs, Pt.cells, Pt.slots] at X65 l65 y65 z65 st65 hQ65
    subst l65 y65 z65
    obtain ⟨rfl, N65q, Kc65, Ex65, Fc65, t65, kb65, g_t65, gs_t65, nx65, Fv65, Av65⟩ := hQ65
    have N65 := Fr.app N57 N65q
    have O65 := O60.keep Kc65 (allS g_b60 all0)
    have CR66 := CR61.trans (CHr.keep Kc65 (allS Sf60 all0) CR61.1)
    have K65 := K60.trans Kc65 (allS (Or.inr s_b60) all0)
    have s_t65 := Nat.le_trans K60.1 gs_t65
    have lt_t65 := Av65.lt
    have k67 : ∀ t, Va p e below m T65 119 #[.val (.ref q0), .val (.int 2), .val (.ref b40)] [(.ref b60)] t → Ab p e below m s₁ #[(.ref q0), (.int nq)] 3 t := by
      intro t k
      refine k62 t ?_
      refine st65.trans ?_
      exact k
    obtain ⟨fs, hr, hrun, hended, hRW⟩ := X65.leaveW hS (by exact (Nat.le_trans (Nat.le_trans (Nat.le_trans (Nat.le_trans (Nat.le_trans (Nat.zero_le _) E40.1) (Keep.of_wr W48).1) (Keep.of_wr W57).1) E60.1) Kc65.1)) (v := some (.ref b60)) (fun h => by rw [Bd.returns] at h; cases h)
    refine hNG ⟨_, _, k67 _ ?_, hrun, hended, _, _, rfl, ?_, by rw [hh]; show CHr Z Ub s.vm h0 T65.vm T65.heap; exact CR66.trans (CHv.at X65 hZ (Vd hw) CR66.1), hRW.1, hRW.2.1, hRW.2.2.1, hRW.2.2.2.mono (by decide) (by decide)⟩
    · exact retOut X65 hx (t := (.object "java/lang/String")) Bd.returns rfl (Or.inr (Or.inr (Or.inr (Or.inr ⟨rfl, rfl, rfl⟩)))) (hb hby Ge) hr
    · show Km Z q0 kq nq c0 c1 c2 c3 c4 c5 c6 c7 c8 Ra Ya Pa Wa Ma Ga Ka Ba Ua Ha La Ia h0 n0 _ T65.heap _
      exact ⟨b60, t65, kb65, (2 : Int32), ((([c0, c1] : List Int32)).map (fun c => c.toInt8.toInt32)).map Value.int, ([c0, c1] : List Int32), rfl, N65, O65, K65, g_b60, s_b60, Ex65, Fc65, Fv65, Av65, StrChars.Road.codOf (cs := ([c0, c1] : List Int32)) (n := 2) rfl (fun c hc => (hp64 c hc).2), hp64, (Nat.le_of_ble_eq_true rfl)⟩
  · have k68 : ∀ t, Va p e below m s₁ 0 #[.val (.ref q0), .val (.int 3), .unset] [] t → Ab p e below m s₁ #[(.ref q0), (.int nq)] 3 t := by
      intro t k
      refine k00 t ?_
      rw [hs10]
      exact k
    obtain ⟨T69, h69, c69, X69, e69, E69, A69, st69⟩ := newP X00 hx hZ (Da hw 1 rfl) e00 (g := (mkF m 1 #[.val (.ref q0), .val (.int 3), .unset] [(.int 3)])) rfl (hb hby Ag) rfl (by decide) (cap := 3) (by decide) (by decide) (by decide) (by decide)
    obtain ⟨b69, g69⟩ : ∃ z, z = h0.size := ⟨_, rfl⟩
    have Sf69 : Safe Z Ub _ h69 b69 := Safe.ext E69 CR0.1 (Safe.new (Nat.le_of_eq g69.symm))
    have CR70 := CR0.trans (CHr.ext E69 CR0.1)
    rw [← g69] at A69 st69
    have O69 := O0.ext E69
    have g_b69 : n0 ≤ b69 := Nat.le_trans (Nat.le_of_eq O0.1.symm) (Nat.le_trans O0.2.1 (Nat.le_of_eq g69.symm))
    have s_b69 : h0.size ≤ b69 := Nat.le_trans K00.1 (Nat.le_of_eq g69.symm)
    have K69 := K00.ext E69
    have V69 : Arv Z h69 b69 c69 .char (3 : Int32) [(.int 0), (.int 0), (.int 0)] (.int 0) := (Arv.new A69 (by decide)).pad (pad_rep [] (.int 0) 3)
    have lt_b69 := V69.lt
    have f71 := (P0.ext E69)
    obtain ⟨cl72, Ar72, q72, Sz72, Nn72, Hs72, Gf72⟩ := id f71
    have hin73 : ¬ ((0 : Int32) < 0 ∨ cl72.slots.size ≤ ((0 : Int32)).toNatClampNeg) := inb_of Sz72 ⟨by decide, by decide⟩
    have hat74 : cl72.slots[((0 : Int32)).toNatClampNeg]? = some (.int c0) := Hs72.at hin73 rfl
    obtain ⟨cl75, Ar75, q75, Sz75, Nn75, Hs75, Gf75⟩ := id V69
    have hin76 : ¬ ((0 : Int32) < 0 ∨ cl75.slots.size ≤ ((0 : Int32)).toNatClampNeg) := inb_of Sz75 ⟨by decide, by decide⟩
    obtain ⟨T77, h77, X77, e77, W77, st77⟩ := stC X69 hx hZ e69 Ar75 (j := (0 : Int32)) hin76 (g := (mkF m 13 #[.val (.ref q0), .val (.int 3), .val (.ref b69)] [(.int c0), (.int 0), (.ref b69)])) rfl rfl (hb hby Mg)
    have V77 : Arv Z h77 b69 c69 .char (3 : Int32) [(.int c0), (.int 0), (.int 0)] (.int 0) := by
      have q := Arv.set Ar75 q75 Sz75 Nn75 Hs75 Gf75 (fits_nar_char _) W77 0 rfl (Nat.le_of_ble_eq_true rfl)
      first | exact q | (simp only [Aa rc0, Aa rc1, Aa rc2, Aa rc3, Aa rc4, Aa rc5, Aa rc6, Aa rc7, Aa rc8] at q; exact q)
    have CR78 := CR70.trans (CHr.wr W77 Sf69 CR70.1)
    have N77 := Fr.snoc X77 N00 g_b69
    have O77 := O69.wr W77 g_b69
    have K77 := K69.wr W77 (Or.inr s_b69)
    have ne79 : ¬ (q0 = b69) := (Nat.ne_of_lt (Nat.lt_of_lt_of_le P0.lt (Nat.le_of_eq g69.symm)))
    have f80 := (f71.other W77 ne79)
    obtain ⟨cl81, Ar81, q81, Sz81, Nn81, Hs81, Gf81⟩ := id f80
    have hin82 : ¬ ((1 : Int32) < 0 ∨ cl81.slots.size ≤ ((1 : Int32)).toNatClampNeg) := inb_of Sz81 ⟨by decide, by decide⟩
    have hat83 : cl81.slots[((1 : Int32)).toNatClampNeg]? = some (.int c1) := Hs81.at hin82 rfl
    obtain ⟨cl84, Ar84, q84, Sz84, Nn84, Hs84, Gf84⟩ := id V77
    have hin85 : ¬ ((1 : Int32) < 0 ∨ cl84.slots.size ≤ ((1 : Int32)).toNatClampNeg) := inb_of Sz84 ⟨by decide, by decide⟩
    obtain ⟨T86, h86, X86, e86, W86, st86⟩ := stC X77 hx hZ e77 Ar84 (j := (1 : Int32)) hin85 (g := (mkF m 24 #[.val (.ref q0), .val (.int 3), .val (.ref b69)] [(.int c1), (.int 1), (.ref b69)])) rfl rfl (hb hby Dh)
    have V86 : Arv Z h86 b69 c69 .char (3 : Int32) [(.int c0), (.int c1), (.int 0)] (.int 0) := by
      have q := Arv.set Ar84 q84 Sz84 Nn84 Hs84 Gf84 (fits_nar_char _) W86 1 rfl (Nat.le_of_ble_eq_true rfl)
      first | exact q | (simp only [Aa rc0, Aa rc1, Aa rc2, Aa rc3, Aa rc4, Aa rc5, Aa rc6, Aa rc7, Aa rc8] at q; exact q)
    have sf88 := (Safe.wr W77 Sf69 CR70.1 Sf69)
    have CR87 := CR78.trans (CHr.wr W86 sf88 CR78.1)
    have N86 := Fr.snoc X86 N77 g_b69
    have O86 := O77.wr W86 g_b69
    have K86 := K77.wr W86 (Or.inr s_b69)
    have f89 := (f80.other W86 ne79)
    obtain ⟨cl90, Ar90, q90, Sz90, Nn90, Hs90, Gf90⟩ := id f89
    have hin91 : ¬ ((2 : Int32) < 0 ∨ cl90.slots.size ≤ ((2 : Int32)).toNatClampNeg) := inb_of Sz90 ⟨by decide, by decide⟩
    have hat92 : cl90.slots[((2 : Int32)).toNatClampNeg]? = some (.int c2) := Hs90.at hin91 rfl
    obtain ⟨cl93, Ar93, q93, Sz93, Nn93, Hs93, Gf93⟩ := id V86
    have hin94 : ¬ ((2 : Int32) < 0 ∨ cl93.slots.size ≤ ((2 : Int32)).toNatClampNeg) := inb_of Sz93 ⟨by decide, by decide⟩
    obtain ⟨T95, h95, X95, e95, W95, st95⟩ := stC X86 hx hZ e86 Ar93 (j := (2 : Int32)) hin94 (g := (mkF m 35 #[.val (.ref q0), .val (.int 3), .val (.ref b69)] [(.int c2), (.int 2), (.ref b69)])) rfl rfl (hb hby Yh)
    have V95 : Arv Z h95 b69 c69 .char (3 : Int32) [(.int c0), (.int c1), (.int c2)] (.int 0) := by
      have q := Arv.set Ar93 q93 Sz93 Nn93 Hs93 Gf93 (fits_nar_char _) W95 2 rfl (Nat.le_of_ble_eq_true rfl)
      first | exact q | (simp only [Aa rc0, Aa rc1, Aa rc2, Aa rc3, Aa rc4, Aa rc5, Aa rc6, Aa rc7, Aa rc8] at q; exact q)
    have sf97 := (Safe.wr W86 sf88 CR78.1 sf88)
    have CR96 := CR87.trans (CHr.wr W95 sf97 CR87.1)
    have N95 := Fr.snoc X95 N86 g_b69
    have O95 := O86.wr W95 g_b69
    have K95 := K86.wr W95 (Or.inr s_b69)
    obtain ⟨T98, h98, X98, e98, E98, A98, D98, -, st98⟩ := newO X95 hx hZ hown (Da hw 53 rfl) (Da hw 8 rfl) (Da hw 7 rfl) e95 (g := (mkF m 111 #[.val (.ref q0), .val (.int 3), .val (.ref b69)] [])) rfl (hb hby Zd) (by decide) (by decide)
    obtain ⟨b98, g98⟩ : ∃ z, z = h95.size := ⟨_, rfl⟩
    have Sf98 : Safe Z Ub _ h98 b98 := Safe.ext E98 CR96.1 (Safe.new (Nat.le_of_eq g98.symm))
    have CR99 := CR96.trans (CHr.ext E98 CR96.1)
    rw [← g98] at A98 D98 st98
    have O98 := O95.ext E98
    have g_b98 : n0 ≤ b98 := Nat.le_trans (Nat.le_of_eq O95.1.symm) (Nat.le_trans O95.2.1 (Nat.le_of_eq g98.symm))
    have s_b98 : h0.size ≤ b98 := Nat.le_trans K95.1 (Nat.le_of_eq g98.symm)
    have K98 := K95.ext E98
    have lt_b98 := A98.lt
    have F98_value : Fld Z h98 b98 "java/lang/String" "value" "[B" .null := D98 (Or.inr (Da hw 10 rfl)) (ty := (.array .byte)) (by decide)
    have F98_coder : Fld Z h98 b98 "java/lang/String" "coder" "B" (.int 0) := D98 (Or.inr (Da hw 11 rfl)) (ty := .byte) (by decide)
    have k100 : ∀ t, Va p e below m T98 116 #[.val (.ref q0), .val (.int 3), .val (.ref b69)] [(.ref b69), (.ref b98), (.ref b98)] t → Ab p e below m s₁ #[(.ref q0), (.int nq)] 3 t := by
      intro t k
      refine k68 t ?_
      refine XS.iloadN X00.here hx rfl (hb hby Zf) rfl ?_
      refine st69 _ ?_
      refine XS.astoreN X69.here hx rfl (hb hby Bg) rfl rfl (l' := #[.val (.ref q0), .val (.int 3), .val (.ref b69)]) rfl ?_
      refine XS.iloadN X69.here hx rfl (hb hby Dg) rfl ?_
      refine XS.ifNo X69.here hx rfl (hb hby Gg) rfl ((if0 _ _).trans (tlt (by decide : (0 : Int32) < (3 : Int32))).2.2.2) ?_
      refine XS.aloadN X69.here hx rfl (hb hby Ug) rfl rfl ?_
      refine XS.iconst X69.here hx rfl (hb hby Vg) ?_
      refine XS.aloadN X69.here hx rfl (hb hby Ig) rfl rfl ?_
      show Va p e below m T69 11 #[.val (.ref q0), .val (.int 3), .val (.ref b69)] [(.ref q0), (.int 0), (.ref b69)] t
      refine XS.iconst X69.here hx rfl (hb hby Kg) ?_
      refine X69.caload hx (j := (0 : Int32)) (v := (.int c0)) (by rw [e69]; exact Ar72.1) (State.isArrayOf_alike hZ.alike Ar72.2.1) Ar72.2.2 hin73 hat74 (g := (mkF m 12 #[.val (.ref q0), .val (.int 3), .val (.ref b69)] [(.int 0), (.ref q0), (.int 0), (.ref b69)])) rfl rfl (hb hby Lg) _ ?_
      refine st77 _ ?_
      refine XS.iloadN X77.here hx rfl (hb hby Ke) rfl ?_
      refine XS.iconst X77.here hx rfl (hb hby Le) ?_
      refine XS.icmpNo X77.here hx rfl (hb hby Me) rfl (tlt (by decide : (1 : Int32) < (3 : Int32))).2.2.2 ?_
      refine XS.aloadN X77.here hx rfl (hb hby Wg) rfl rfl ?_
      refine XS.iconst X77.here hx rfl (hb hby Yg) ?_
      show Va p e below m T77 21 #[.val (.ref q0), .val (.int 3), .val (.ref b69)] [(.int 1), (.ref b69)] t
      refine XS.aloadN X77.here hx rfl (hb hby Zg) rfl rfl ?_
      refine XS.iconst X77.here hx rfl (hb hby Ah) ?_
      refine X77.caload hx (j := (1 : Int32)) (v := (.int c1)) (by rw [e77]; exact Ar81.1) (State.isArrayOf_alike hZ.alike Ar81.2.1) Ar81.2.2 hin82 hat83 (g := (mkF m 23 #[.val (.ref q0), .val (.int 3), .val (.ref b69)] [(.int 1), (.ref q0), (.int 1), (.ref b69)])) rfl rfl (hb hby Bh) _ ?_
      refine st86 _ ?_
      refine XS.iloadN X86.here hx rfl (hb hby Pe) rfl ?_
      refine XS.iconst X86.here hx rfl (hb hby Re) ?_
      refine XS.icmpNo X86.here hx rfl (hb hby Ue) rfl (tlt (by decide : (2 : Int32) < (3 : Int32))).2.2.2 ?_
      refine XS.aloadN X86.here hx rfl (hb hby Ph) rfl rfl ?_
      show Va p e below m T86 31 #[.val (.ref q0), .val (.int 3), .val (.ref b69)] [(.ref b69)] t
      refine XS.iconst X86.here hx rfl (hb hby Rh) ?_
      refine XS.aloadN X86.here hx rfl (hb hby Uh) rfl rfl ?_
      refine XS.iconst X86.here hx rfl (hb hby Vh) ?_
      refine X86.caload hx (j := (2 : Int32)) (v := (.int c2)) (by rw [e86]; exact Ar90.1) (State.isArrayOf_alike hZ.alike Ar90.2.1) Ar90.2.2 hin91 hat92 (g := (mkF m 34 #[.val (.ref q0), .val (.int 3), .val (.ref b69)] [(.int 2), (.ref q0), (.int 2), (.ref b69)])) rfl rfl (hb hby Wh) _ ?_
      refine st95 _ ?_
      refine XS.iloadN X95.here hx rfl (hb hby Ve) rfl ?_
      refine XS.iconst X95.here hx rfl (hb hby We) ?_
      refine XS.icmpYes X95.here hx rfl (pc0 := 38) (pc' := 47) rfl (hb hby Ye) rfl (flt (by decide : ¬ ((3 : Int32) < (3 : Int32)))).2.2.2 (by decide) (by decide) ?_
      show Va p e below m T95 47 #[.val (.ref q0), .val (.int 3), .val (.ref b69)] [] t
      refine XS.iloadN X95.here hx rfl (hb hby Ze) rfl ?_
      refine XS.iconst X95.here hx rfl (hb hby Af) ?_
      refine XS.icmpYes X95.here hx rfl (pc0 := 49) (pc' := 58) rfl (hb hby Bf) rfl (flt (by decide : ¬ ((4 : Int32) < (3 : Int32)))).2.2.2 (by decide) (by decide) ?_
      refine XS.iloadN X95.here hx rfl (hb hby Df) rfl ?_
      refine XS.iconst X95.here hx rfl (hb hby Gf) ?_
      refine XS.icmpYes X95.here hx rfl (pc0 := 60) (pc' := 69) rfl (hb hby Hf) rfl (flt (by decide : ¬ ((5 : Int32) < (3 : Int32)))).2.2.2 (by decide) (by decide) ?_
      refine XS.iloadN X95.here hx rfl (hb hby Kf) rfl ?_
      refine XS.bipush X95.here hx rfl (hb hby Lf) ?_
      show Va p e below m T95 72 #[.val (.ref q0), .val (.int 3), .val (.ref b69)] [(.int 6), (.int 3)] t
      refine XS.icmpYes X95.here hx rfl (pc0 := 72) (pc' := 83) rfl (hb hby Mf) rfl (flt (by decide : ¬ ((6 : Int32) < (3 : Int32)))).2.2.2 (by decide) (by decide) ?_
      refine XS.iloadN X95.here hx rfl (hb hby Pf) rfl ?_
      refine XS.bipush X95.here hx rfl (hb hby Rf) ?_
      refine XS.icmpYes X95.here hx rfl (pc0 := 86) (pc' := 97) rfl (hb hby Uf) rfl (flt (by decide : ¬ ((7 : Int32) < (3 : Int32)))).2.2.2 (by decide) (by decide) ?_
      refine XS.iloadN X95.here hx rfl (hb hby Vf) rfl ?_
      refine XS.bipush X95.here hx rfl (hb hby Wf) ?_
      refine XS.icmpYes X95.here hx rfl (pc0 := 100) (pc' := 111) rfl (hb hby Yd) rfl (flt (by decide : ¬ ((8 : Int32) < (3 : Int32)))).2.2.2 (by decide) (by decide) ?_
      refine st98 _ ?_
      show Va p e below m T98 114 #[.val (.ref q0), .val (.int 3), .val (.ref b69)] [(.ref b98)] t
      refine XS.dup X98.here hx rfl (hb hby Ae) rfl rfl ?_
      refine XS.aloadN X98.here hx rfl (hb hby Be) rfl rfl ?_
      exact k
    have f101 := (V95.ext E98)
    have hp102 : ∀ c ∈ ([c0, c1, c2] : List Int32), ¬ c < 0 ∧ ¬ (255 : Int32) < c := (by simp only [List.mem_cons, List.not_mem_nil, or_false, forall_eq_or_imp, forall_eq]; exact ⟨rc0, rc1, rc2⟩)
    obtain ⟨_, _, ⟨T103, L103, k103, n103⟩, -, X103, ⟨Lc103, hQ103, l103, y103, z103⟩, st103⟩ := X98.specialBack hx (y := Ml) rfl hown (mvT hZ (Da hw 54 rfl)) (mvT hZ (Da hw 55 rfl)) (mvT hZ (Da hw 56 rfl)) (by decide) (StrChars.Road.backV (W := 1) hZ (Hm hw) (kI := 4) (Da hw 8 rfl) (cs := ([c0, c1, c2] : List Int32)) (bs := (([c0, c1, c2] : List Int32)).map (fun c => c.toInt8.toInt32)) (n := 3) g_b98 (Nat.le_trans (Nat.le_of_eq O98.1.symm) O98.2.1) A98 F98_value F98_coder f101 (Bb.ext O98.2) Za rfl rfl (by decide) (by decide) hp102 rfl (by decide) (by decide)) (g := (mkF m 116 #[.val (.ref q0), .val (.int 3), .val (.ref b69)] [(.ref b69), (.ref b98), (.ref b98)])) rfl (by rw [hml]; rfl) (Steps.refl _) (a := b98) (argsL := [(.ref b69)]) (rest := [(.ref b98)]) (lenOf Dl rfl) rfl (by show 2 * 0 + _ ≤ _; exact Nat.le_of_eq rfl) (hb hby De) (fun _ _ => ⟨rfl, e98, (by decide : 2 + 1 ≤ _), (by decide : 7 + 3 ≤ _)⟩)
    dsimp only [Pt.U, Pt.locs, Pt.cells, Pt.slots] at X103 l103 y103 z103 st103 hQ103
    subst l103 y103 z103
    obtain ⟨rfl, N103q, Kc103, Ex103, Fc103, t103, kb103, g_t103, gs_t103, nx103, Fv103, Av103⟩ := hQ103
    have N103 := Fr.app N95 N103q
    have O103 := O98.keep Kc103 (allS g_b98 all0)
    have CR104 := CR99.trans (CHr.keep Kc103 (allS Sf98 all0) CR99.1)
    have K103 := K98.trans Kc103 (allS (Or.inr s_b98) all0)
    have s_t103 := Nat.le_trans K98.1 gs_t103
    have lt_t103 := Av103.lt
    have k105 : ∀ t, Va p e below m T103 119 #[.val (.ref q0), .val (.int 3), .val (.ref b69)] [(.ref b98)] t → Ab p e below m s₁ #[(.ref q0), (.int nq)] 3 t := by
      intro t k
      refine k100 t ?_
      refine st103.trans ?_
      exact k
    obtain ⟨fs, hr, hrun, hended, hRW⟩ := X103.leaveW hS (by exact (Nat.le_trans (Nat.le_trans (Nat.le_trans (Nat.le_trans (Nat.le_trans (Nat.le_trans (Nat.zero_le _) E69.1) (Keep.of_wr W77).1) (Keep.of_wr W86).1) (Keep.of_wr W95).1) E98.1) Kc103.1)) (v := some (.ref b98)) (fun h => by rw [Bd.returns] at h; cases h)
    refine hNG ⟨_, _, k105 _ ?_, hrun, hended, _, _, rfl, ?_, by rw [hh]; show CHr Z Ub s.vm h0 T103.vm T103.heap; exact CR104.trans (CHv.at X103 hZ (Vd hw) CR104.1), hRW.1, hRW.2.1, hRW.2.2.1, hRW.2.2.2.mono (by decide) (by decide)⟩
    · exact retOut X103 hx (t := (.object "java/lang/String")) Bd.returns rfl (Or.inr (Or.inr (Or.inr (Or.inr ⟨rfl, rfl, rfl⟩)))) (hb hby Ge) hr
    · show Km Z q0 kq nq c0 c1 c2 c3 c4 c5 c6 c7 c8 Ra Ya Pa Wa Ma Ga Ka Ba Ua Ha La Ia h0 n0 _ T103.heap _
      exact ⟨b98, t103, kb103, (3 : Int32), ((([c0, c1, c2] : List Int32)).map (fun c => c.toInt8.toInt32)).map Value.int, ([c0, c1, c2] : List Int32), rfl, N103, O103, K103, g_b98, s_b98, Ex103, Fc103, Fv103, Av103, StrChars.Road.codOf (cs := ([c0, c1, c2] : List Int32)) (n := 3) rfl (fun c hc => (hp102 c hc).2), hp102, (Nat.le_of_ble_eq_true rfl)⟩
  · have k106 : ∀ t, Va p e below m s₁ 0 #[.val (.ref q0), .val (.int 4), .unset] [] t → Ab p e below m s₁ #[(.ref q0), (.int nq)] 3 t := by
      intro t k
      refine k00 t ?_
      rw [hs10]
      exact k
    obtain ⟨T107, h107, c107, X107, e107, E107, A107, st107⟩ := newP X00 hx hZ (Da hw 1 rfl) e00 (g := (mkF m 1 #[.val (.ref q0), .val (.int 4), .unset] [(.int 4)])) rfl (hb hby Ag) rfl (by decide) (cap := 4) (by decide) (by decide) (by decide) (by decide)
    obtain ⟨b107, g107⟩ : ∃ z, z = h0.size := ⟨_, rfl⟩
    have Sf107 : Safe Z Ub _ h107 b107 := Safe.ext E107 CR0.1 (Safe.new (Nat.le_of_eq g107.symm))
    have CR108 := CR0.trans (CHr.ext E107 CR0.1)
    rw [← g107] at A107 st107
    have O107 := O0.ext E107
    have g_b107 : n0 ≤ b107 := Nat.le_trans (Nat.le_of_eq O0.1.symm) (Nat.le_trans O0.2.1 (Nat.le_of_eq g107.symm))
    have s_b107 : h0.size ≤ b107 := Nat.le_trans K00.1 (Nat.le_of_eq g107.symm)
    have K107 := K00.ext E107
    have V107 : Arv Z h107 b107 c107 .char (4 : Int32) [(.int 0), (.int 0), (.int 0), (.int 0)] (.int 0) := (Arv.new A107 (by decide)).pad (pad_rep [] (.int 0) 4)
    have lt_b107 := V107.lt
    have f109 := (P0.ext E107)
    obtain ⟨cl110, Ar110, q110, Sz110, Nn110, Hs110, Gf110⟩ := id f109
    have hin111 : ¬ ((0 : Int32) < 0 ∨ cl110.slots.size ≤ ((0 : Int32)).toNatClampNeg) := inb_of Sz110 ⟨by decide, by decide⟩
    have hat112 : cl110.slots[((0 : Int32)).toNatClampNeg]? = some (.int c0) := Hs110.at hin111 rfl
    obtain ⟨cl113, Ar113, q113, Sz113, Nn113, Hs113, Gf113⟩ := id V107
    have hin114 : ¬ ((0 : Int32) < 0 ∨ cl113.slots.size ≤ ((0 : Int32)).toNatClampNeg) := inb_of Sz113 ⟨by decide, by decide⟩
    obtain ⟨T115, h115, X115, e115, W115, st115⟩ := stC X107 hx hZ e107 Ar113 (j := (0 : Int32)) hin114 (g := (mkF m 13 #[.val (.ref q0), .val (.int 4), .val (.ref b107)] [(.int c0), (.int 0), (.ref b107)])) rfl rfl (hb hby Mg)
    have V115 : Arv Z h115 b107 c107 .char (4 : Int32) [(.int c0), (.int 0), (.int 0), (.int 0)] (.int 0) := by
      have q := Arv.set Ar113 q113 Sz113 Nn113 Hs113 Gf113 (fits_nar_char _) W115 0 rfl (Nat.le_of_ble_eq_true rfl)
      first | exact q | (simp only [Aa rc0, Aa rc1, Aa rc2, Aa rc3, Aa rc4, Aa rc5, Aa rc6, Aa rc7, Aa rc8] at q; exact q)
    have CR116 := CR108.trans (CHr.wr W115 Sf107 CR108.1)
    have N115 := Fr.snoc X115 N00 g_b107
    have O115 := O107.wr W115 g_b107
    have K115 := K107.wr W115 (Or.inr s_b107)
    have ne117 : ¬ (q0 = b107) := (Nat.ne_of_lt (Nat.lt_of_lt_of_le P0.lt (Nat.le_of_eq g107.symm)))
    have f118 := (f109.other W115 ne117)
    obtain ⟨cl119, Ar119, q119, Sz119, Nn119, Hs119, Gf119⟩ := id f118
    have hin120 : ¬ ((1 : Int32) < 0 ∨ cl119.slots.size ≤ ((1 : Int32)).toNatClampNeg) := inb_of Sz119 ⟨by decide, by decide⟩
    have hat121 : cl119.slots[((1 : Int32)).toNatClampNeg]? = some (.int c1) := Hs119.at hin120 rfl
    obtain ⟨cl122, Ar122, q122, Sz122, Nn122, Hs122, Gf122⟩ := id V115
    have hin123 : ¬ ((1 : Int32) < 0 ∨ cl122.slots.size ≤ ((1 : Int32)).toNatClampNeg) := inb_of Sz122 ⟨by decide, by decide⟩
    obtain ⟨T124, h124, X124, e124, W124, st124⟩ := stC X115 hx hZ e115 Ar122 (j := (1 : Int32)) hin123 (g := (mkF m 24 #[.val (.ref q0), .val (.int 4), .val (.ref b107)] [(.int c1), (.int 1), (.ref b107)])) rfl rfl (hb hby Dh)
    have V124 : Arv Z h124 b107 c107 .char (4 : Int32) [(.int c0), (.int c1), (.int 0), (.int 0)] (.int 0) := by
      have q := Arv.set Ar122 q122 Sz122 Nn122 Hs122 Gf122 (fits_nar_char _) W124 1 rfl (Nat.le_of_ble_eq_true rfl)
      first | exact q | (simp only [Aa rc0, Aa rc1, Aa rc2, Aa rc3, Aa rc4, Aa rc5, Aa rc6, Aa rc7, Aa rc8] at q; exact q)
    have sf126 := (Safe.wr W115 Sf107 CR108.1 Sf107)
    have CR125 := CR116.trans (CHr.wr W124 sf126 CR116.1)
    have N124 := Fr.snoc X124 N115 g_b107
    have O124 := O115.wr W124 g_b107
    have K124 := K115.wr W124 (Or.inr s_b107)
    have f127 := (f118.other W124 ne117)
    obtain ⟨cl128, Ar128, q128, Sz128, Nn128, Hs128, Gf128⟩ := id f127
    have hin129 : ¬ ((2 : Int32) < 0 ∨ cl128.slots.size ≤ ((2 : Int32)).toNatClampNeg) := inb_of Sz128 ⟨by decide, by decide⟩
    have hat130 : cl128.slots[((2 : Int32)).toNatClampNeg]? = some (.int c2) := Hs128.at hin129 rfl
    obtain ⟨cl131, Ar131, q131, Sz131, Nn131, Hs131, Gf131⟩ := id V124
    have hin132 : ¬ ((2 : Int32) < 0 ∨ cl131.slots.size ≤ ((2 : Int32)).toNatClampNeg) := inb_of Sz131 ⟨by decide, by decide⟩
    obtain ⟨T133, h133, X133, e133, W133, st133⟩ := stC X124 hx hZ e124 Ar131 (j := (2 : Int32)) hin132 (g := (mkF m 35 #[.val (.ref q0), .val (.int 4), .val (.ref b107)] [(.int c2), (.int 2), (.ref b107)])) rfl rfl (hb hby Yh)
    have V133 : Arv Z h133 b107 c107 .char (4 : Int32) [(.int c0), (.int c1), (.int c2), (.int 0)] (.int 0) := by
      have q := Arv.set Ar131 q131 Sz131 Nn131 Hs131 Gf131 (fits_nar_char _) W133 2 rfl (Nat.le_of_ble_eq_true rfl)
      first | exact q | (simp only [Aa rc0, Aa rc1, Aa rc2, Aa rc3, Aa rc4, Aa rc5, Aa rc6, Aa rc7, Aa rc8] at q; exact q)
    have sf135 := (Safe.wr W124 sf126 CR116.1 sf126)
    have CR134 := CR125.trans (CHr.wr W133 sf135 CR125.1)
    have N133 := Fr.snoc X133 N124 g_b107
    have O133 := O124.wr W133 g_b107
    have K133 := K124.wr W133 (Or.inr s_b107)
    have f136 := (f127.other W133 ne117)
    obtain ⟨cl137, Ar137, q137, Sz137, Nn137, Hs137, Gf137⟩ := id f136
    have hin138 : ¬ ((3 : Int32) < 0 ∨ cl137.slots.size ≤ ((3 : Int32)).toNatClampNeg) := inb_of Sz137 ⟨by decide, by decide⟩
    have hat139 : cl137.slots[((3 : Int32)).toNatClampNeg]? = some (.int c3) := Hs137.at hin138 rfl
    obtain ⟨cl140, Ar140, q140, Sz140, Nn140, Hs140, Gf140⟩ := id V133
    have hin141 : ¬ ((3 : Int32) < 0 ∨ cl140.slots.size ≤ ((3 : Int32)).toNatClampNeg) := inb_of Sz140 ⟨by decide, by decide⟩
    obtain ⟨T142, h142, X142, e142, W142, st142⟩ := stC X133 hx hZ e133 Ar140 (j := (3 : Int32)) hin141 (g := (mkF m 46 #[.val (.ref q0), .val (.int 4), .val (.ref b107)] [(.int c3), (.int 3), (.ref b107)])) rfl rfl (hb hby Yi)
    have V142 : Arv Z h142 b107 c107 .char (4 : Int32) [(.int c0), (.int c1), (.int c2), (.int c3)] (.int 0) := by
      have q := Arv.set Ar140 q140 Sz140 Nn140 Hs140 Gf140 (fits_nar_char _) W142 3 rfl (Nat.le_of_ble_eq_true rfl)
      first | exact q | (simp only [Aa rc0, Aa rc1, Aa rc2, Aa rc3, Aa rc4, Aa rc5, Aa rc6, Aa rc7, Aa rc8] at q; exact q)
    have sf144 := (Safe.wr W133 sf135 CR125.1 sf135)
    have CR143 := CR134.trans (CHr.wr W142 sf144 CR134.1)
    have N142 := Fr.snoc X142 N133 g_b107
    have O142 := O133.wr W142 g_b107
    have K142 := K133.wr W142 (Or.inr s_b107)
    obtain ⟨T145, h145, X145, e145, E145, A145, D145, -, st145⟩ := newO X142 hx hZ hown (Da hw 53 rfl) (Da hw 8 rfl) (Da hw 7 rfl) e142 (g := (mkF m 111 #[.val (.ref q0), .val (.int 4), .val (.ref b107)] [])) rfl (hb hby Zd) (by decide) (by decide)
    obtain ⟨b145, g145⟩ : ∃ z, z = h142.size := ⟨_, rfl⟩
    have Sf145 : Safe Z Ub _ h145 b145 := Safe.ext E145 CR143.1 (Safe.new (Nat.le_of_eq g145.symm))
    have CR146 := CR143.trans (CHr.ext E145 CR143.1)
    rw [← g145] at A145 D145 st145
    have O145 := O142.ext E145
    have g_b145 : n0 ≤ b145 := Nat.le_trans (Nat.le_of_eq O142.1.symm) (Nat.le_trans O142.2.1 (Nat.le_of_eq g145.symm))
    have s_b145 : h0.size ≤ b145 := Nat.le_trans K142.1 (Nat.le_of_eq g145.symm)
    have K145 := K142.ext E145
    have lt_b145 := A145.lt
    have F145_value : Fld Z h145 b145 "java/lang/String" "value" "[B" .null := D145 (Or.inr (Da hw 10 rfl)) (ty := (.array .byte)) (by decide)
    have F145_coder : Fld Z h145 b145 "java/lang/String" "coder" "B" (.int 0) := D145 (Or.inr (Da hw 11 rfl)) (ty := .byte) (by decide)
    have k147 : ∀ t, Va p e below m T145 116 #[.val (.ref q0), .val (.int 4), .val (.ref b107)] [(.ref b107), (.ref b145), (.ref b145)] t → Ab p e below m s₁ #[(.ref q0), (.int nq)] 3 t := by
      intro t k
      refine k106 t ?_
      refine XS.iloadN X00.here hx rfl (hb hby Zf) rfl ?_
      refine st107 _ ?_
      refine XS.astoreN X107.here hx rfl (hb hby Bg) rfl rfl (l' := #[.val (.ref q0), .val (.int 4), .val (.ref b107)]) rfl ?_
      refine XS.iloadN X107.here hx rfl (hb hby Dg) rfl ?_
      refine XS.ifNo X107.here hx rfl (hb hby Gg) rfl ((if0 _ _).trans (tlt (by decide : (0 : Int32) < (4 : Int32))).2.2.2) ?_
      refine XS.aloadN X107.here hx rfl (hb hby Ug) rfl rfl ?_
      refine XS.iconst X107.here hx rfl (hb hby Vg) ?_
      refine XS.aloadN X107.here hx rfl (hb hby Ig) rfl rfl ?_
      show Va p e below m T107 11 #[.val (.ref q0), .val (.int 4), .val (.ref b107)] [(.ref q0), (.int 0), (.ref b107)] t
      refine XS.iconst X107.here hx rfl (hb hby Kg) ?_
      refine X107.caload hx (j := (0 : Int32)) (v := (.int c0)) (by rw [e107]; exact Ar110.1) (State.isArrayOf_alike hZ.alike Ar110.2.1) Ar110.2.2 hin111 hat112 (g := (mkF m 12 #[.val (.ref q0), .val (.int 4), .val (.ref b107)] [(.int 0), (.ref q0), (.int 0), (.ref b107)])) rfl rfl (hb hby Lg) _ ?_
      refine st115 _ ?_
      refine XS.iloadN X115.here hx rfl (hb hby Ke) rfl ?_
      refine XS.iconst X115.here hx rfl (hb hby Le) ?_
      refine XS.icmpNo X115.here hx rfl (hb hby Me) rfl (tlt (by decide : (1 : Int32) < (4 : Int32))).2.2.2 ?_
      refine XS.aloadN X115.here hx rfl (hb hby Wg) rfl rfl ?_
      refine XS.iconst X115.here hx rfl (hb hby Yg) ?_
      show Va p e below m T115 21 #[.val (.ref q0), .val (.int 4), .val (.ref b107)] [(.int 1), (.ref b107)] t
      refine XS.aloadN X115.here hx rfl (hb hby Zg) rfl rfl ?_
      refine XS.iconst X115.here hx rfl (hb hby Ah) ?_
      refine X115.caload hx (j := (1 : Int32)) (v := (.int c1)) (by rw [e115]; exact Ar119.1) (State.isArrayOf_alike hZ.alike Ar119.2.1) Ar119.2.2 hin120 hat121 (g := (mkF m 23 #[.val (.ref q0), .val (.int 4), .val (.ref b107)] [(.int 1), (.ref q0), (.int 1), (.ref b107)])) rfl rfl (hb hby Bh) _ ?_
      refine st124 _ ?_
      refine XS.iloadN X124.here hx rfl (hb hby Pe) rfl ?_
      refine XS.iconst X124.here hx rfl (hb hby Re) ?_
      refine XS.icmpNo X124.here hx rfl (hb hby Ue) rfl (tlt (by decide : (2 : Int32) < (4 : Int32))).2.2.2 ?_
      refine XS.aloadN X124.here hx rfl (hb hby Ph) rfl rfl ?_
      show Va p e below m T124 31 #[.val (.ref q0), .val (.int 4), .val (.ref b107)] [(.ref b107)] t
      refine XS.iconst X124.here hx rfl (hb hby Rh) ?_
      refine XS.aloadN X124.here hx rfl (hb hby Uh) rfl rfl ?_
      refine XS.iconst X124.here hx rfl (hb hby Vh) ?_
      refine X124.caload hx (j := (2 : Int32)) (v := (.int c2)) (by rw [e124]; exact Ar128.1) (State.isArrayOf_alike hZ.alike Ar128.2.1) Ar128.2.2 hin129 hat130 (g := (mkF m 34 #[.val (.ref q0), .val (.int 4), .val (.ref b107)] [(.int 2), (.ref q0), (.int 2), (.ref b107)])) rfl rfl (hb hby Wh) _ ?_
      refine st133 _ ?_
      refine XS.iloadN X133.here hx rfl (hb hby Ve) rfl ?_
      refine XS.iconst X133.here hx rfl (hb hby We) ?_
      refine XS.icmpNo X133.here hx rfl (hb hby Ye) rfl (tlt (by decide : (3 : Int32) < (4 : Int32))).2.2.2 ?_
      show Va p e below m T133 41 #[.val (.ref q0), .val (.int 4), .val (.ref b107)] [] t
      refine XS.aloadN X133.here hx rfl (hb hby Pi) rfl rfl ?_
      refine XS.iconst X133.here hx rfl (hb hby Ri) ?_
      refine XS.aloadN X133.here hx rfl (hb hby Ui) rfl rfl ?_
      refine XS.iconst X133.here hx rfl (hb hby Vi) ?_
      refine X133.caload hx (j := (3 : Int32)) (v := (.int c3)) (by rw [e133]; exact Ar137.1) (State.isArrayOf_alike hZ.alike Ar137.2.1) Ar137.2.2 hin138 hat139 (g := (mkF m 45 #[.val (.ref q0), .val (.int 4), .val (.ref b107)] [(.int 3), (.ref q0), (.int 3), (.ref b107)])) rfl rfl (hb hby Wi) _ ?_
      refine st142 _ ?_
      refine XS.iloadN X142.here hx rfl (hb hby Ze) rfl ?_
      refine XS.iconst X142.here hx rfl (hb hby Af) ?_
      show Va p e below m T142 49 #[.val (.ref q0), .val (.int 4), .val (.ref b107)] [(.int 4), (.int 4)] t
      refine XS.icmpYes X142.here hx rfl (pc0 := 49) (pc' := 58) rfl (hb hby Bf) rfl (flt (by decide : ¬ ((4 : Int32) < (4 : Int32)))).2.2.2 (by decide) (by decide) ?_
      refine XS.iloadN X142.here hx rfl (hb hby Df) rfl ?_
      refine XS.iconst X142.here hx rfl (hb hby Gf) ?_
      refine XS.icmpYes X142.here hx rfl (pc0 := 60) (pc' := 69) rfl (hb hby Hf) rfl (flt (by decide : ¬ ((5 : Int32) < (4 : Int32)))).2.2.2 (by decide) (by decide) ?_
      refine XS.iloadN X142.here hx rfl (hb hby Kf) rfl ?_
      refine XS.bipush X142.here hx rfl (hb hby Lf) ?_
      refine XS.icmpYes X142.here hx rfl (pc0 := 72) (pc' := 83) rfl (hb hby Mf) rfl (flt (by decide : ¬ ((6 : Int32) < (4 : Int32)))).2.2.2 (by decide) (by decide) ?_
      refine XS.iloadN X142.here hx rfl (hb hby Pf) rfl ?_
      show Va p e below m T142 84 #[.val (.ref q0), .val (.int 4), .val (.ref b107)] [(.int 4)] t
      refine XS.bipush X142.here hx rfl (hb hby Rf) ?_
      refine XS.icmpYes X142.here hx rfl (pc0 := 86) (pc' := 97) rfl (hb hby Uf) rfl (flt (by decide : ¬ ((7 : Int32) < (4 : Int32)))).2.2.2 (by decide) (by decide) ?_
      refine XS.iloadN X142.here hx rfl (hb hby Vf) rfl ?_
      refine XS.bipush X142.here hx rfl (hb hby Wf) ?_
      refine XS.icmpYes X142.here hx rfl (pc0 := 100) (pc' := 111) rfl (hb hby Yd) rfl (flt (by decide : ¬ ((8 : Int32) < (4 : Int32)))).2.2.2 (by decide) (by decide) ?_
      refine st145 _ ?_
      refine XS.dup X145.here hx rfl (hb hby Ae) rfl rfl ?_
      refine XS.aloadN X145.here hx rfl (hb hby Be) rfl rfl ?_
      show Va p e below m T145 116 #[.val (.ref q0), .val (.int 4), .val (.ref b107)] [(.ref b107), (.ref b145), (.ref b145)] t
      exact k
    have f148 := (V142.ext E145)
    have hp149 : ∀ c ∈ ([c0, c1, c2, c3] : List Int32), ¬ c < 0 ∧ ¬ (255 : Int32) < c := (by simp only [List.mem_cons, List.not_mem_nil, or_false, forall_eq_or_imp, forall_eq]; exact ⟨rc0, rc1, rc2, rc3⟩)
    obtain ⟨_, _, ⟨T150, L150, k150, n150⟩, -, X150, ⟨Lc150, hQ150, l150, y150, z150⟩, st150⟩ := X145.specialBack hx (y := Ml) rfl hown (mvT hZ (Da hw 54 rfl)) (mvT hZ (Da hw 55 rfl)) (mvT hZ (Da hw 56 rfl)) (by decide) (StrChars.Road.backV (W := 1) hZ (Hm hw) (kI := 4) (Da hw 8 rfl) (cs := ([c0, c1, c2, c3] : List Int32)) (bs := (([c0, c1, c2, c3] : List Int32)).map (fun c => c.toInt8.toInt32)) (n := 4) g_b145 (Nat.le_trans (Nat.le_of_eq O145.1.symm) O145.2.1) A145 F145_value F145_coder f148 (Bb.ext O145.2) Za rfl rfl (by decide) (by decide) hp149 rfl (by decide) (by decide)) (g := (mkF m 116 #[.val (.ref q0), .val (.int 4), .val (.ref b107)] [(.ref b107), (.ref b145), (.ref b145)])) rfl (by rw [hml]; rfl) (Steps.refl _) (a := b145) (argsL := [(.ref b107)]) (rest := [(.ref b145)]) (lenOf Dl rfl) rfl (by show 2 * 0 + _ ≤ _; exact Nat.le_of_eq rfl) (hb hby De) (fun _ _ => ⟨rfl, e145, (by decide : 2 + 1 ≤ _), (by decide : 8 + 4 ≤ _)⟩)
    dsimp only [Pt.U, Pt.locs, Pt.cells, Pt.slots] at X150 l150 y150 z150 st150 hQ150
    subst l150 y150 z150
    obtain ⟨rfl, N150q, Kc150, Ex150, Fc150, t150, kb150, g_t150, gs_t150, nx150, Fv150, Av150⟩ := hQ150
    have N150 := Fr.app N142 N150q
    have O150 := O145.keep Kc150 (allS g_b145 all0)
    have CR151 := CR146.trans (CHr.keep Kc150 (allS Sf145 all0) CR146.1)
    have K150 := K145.trans Kc150 (allS (Or.inr s_b145) all0)
    have s_t150 := Nat.le_trans K145.1 gs_t150
    have lt_t150 := Av150.lt
    have k152 : ∀ t, Va p e below m T150 119 #[.val (.ref q0), .val (.int 4), .val (.ref b107)] [(.ref b145)] t → Ab p e below m s₁ #[(.ref q0), (.int nq)] 3 t := by
      intro t k
      refine k147 t ?_
      refine st150.trans ?_
      exact k
    obtain ⟨fs, hr, hrun, hended, hRW⟩ := X150.leaveW hS (by exact (Nat.le_trans (Nat.le_trans (Nat.le_trans (Nat.le_trans (Nat.le_trans (Nat.le_trans (Nat.le_trans (Nat.zero_le _) E107.1) (Keep.of_wr W115).1) (Keep.of_wr W124).1) (Keep.of_wr W133).1) (Keep.of_wr W142).1) E145.1) Kc150.1)) (v := some (.ref b145)) (fun h => by rw [Bd.returns] at h; cases h)
    refine hNG ⟨_, _, k152 _ ?_, hrun, hended, _, _, rfl, ?_, by rw [hh]; show CHr Z Ub s.vm h0 T150.vm T150.heap; exact CR151.trans (CHv.at X150 hZ (Vd hw) CR151.1), hRW.1, hRW.2.1, hRW.2.2.1, hRW.2.2.2.mono (by decide) (by decide)⟩
    · exact retOut X150 hx (t := (.object "java/lang/String")) Bd.returns rfl (Or.inr (Or.inr (Or.inr (Or.inr ⟨rfl, rfl, rfl⟩)))) (hb hby Ge) hr
    · show Km Z q0 kq nq c0 c1 c2 c3 c4 c5 c6 c7 c8 Ra Ya Pa Wa Ma Ga Ka Ba Ua Ha La Ia h0 n0 _ T150.heap _
      exact ⟨b145, t150, kb150, (4 : Int32), ((([c0, c1, c2, c3] : List Int32)).map (fun c => c.toInt8.toInt32)).map Value.int, ([c0, c1, c2, c3] : List Int32), rfl, N150, O150, K150, g_b145, s_b145, Ex150, Fc150, Fv150, Av150, StrChars.Road.codOf (cs := ([c0, c1, c2, c3] : List Int32)) (n := 4) rfl (fun c hc => (hp149 c hc).2), hp149, (Nat.le_of_ble_eq_true rfl)⟩
  · have k153 : ∀ t, Va p e below m s₁ 0 #[.val (.ref q0), .val (.int 5), .unset] [] t → Ab p e below m s₁ #[(.ref q0), (.int nq)] 3 t := by
      intro t k
      refine k00 t ?_
      rw [hs10]
      exact k
    obtain ⟨T154, h154, c154, X154, e154, E154, A154, st154⟩ := newP X00 hx hZ (Da hw 1 rfl) e00 (g := (mkF m 1 #[.val (.ref q0), .val (.int 5), .unset] [(.int 5)])) rfl (hb hby Ag) rfl (by decide) (cap := 5) (by decide) (by decide) (by decide) (by decide)
    obtain ⟨b154, g154⟩ : ∃ z, z = h0.size := ⟨_, rfl⟩
    have Sf154 : Safe Z Ub _ h154 b154 := Safe.ext E154 CR0.1 (Safe.new (Nat.le_of_eq g154.symm))
    have CR155 := CR0.trans (CHr.ext E154 CR0.1)
    rw [← g154] at A154 st154
    have O154 := O0.ext E154
    have g_b154 : n0 ≤ b154 := Nat.le_trans (Nat.le_of_eq O0.1.symm) (Nat.le_trans O0.2.1 (Nat.le_of_eq g154.symm))
    have s_b154 : h0.size ≤ b154 := Nat.le_trans K00.1 (Nat.le_of_eq g154.symm)
    have K154 := K00.ext E154
    have V154 : Arv Z h154 b154 c154 .char (5 : Int32) [(.int 0), (.int 0), (.int 0), (.int 0), (.int 0)] (.int 0) := (Arv.new A154 (by decide)).pad (pad_rep [] (.int 0) 5)
    have lt_b154 := V154.lt
    have f156 := (P0.ext E154)
    obtain ⟨cl157, Ar157, q157, Sz157, Nn157, Hs157, Gf157⟩ := id f156
    have hin158 : ¬ ((0 : Int32) < 0 ∨ cl157.slots.size ≤ ((0 : Int32)).toNatClampNeg) := inb_of Sz157 ⟨by decide, by decide⟩
    have hat159 : cl157.slots[((0 : Int32)).toNatClampNeg]? = some (.int c0) := Hs157.at hin158 rfl
    obtain ⟨cl160, Ar160, q160, Sz160, Nn160, Hs160, Gf160⟩ := id V154
    have hin161 : ¬ ((0 : Int32) < 0 ∨ cl160.slots.size ≤ ((0 : Int32)).toNatClampNeg) := inb_of Sz160 ⟨by decide, by decide⟩
    obtain ⟨T162, h162, X162, e162, W162, st162⟩ := stC X154 hx hZ e154 Ar160 (j := (0 : Int32)) hin161 (g := (mkF m 13 #[.val (.ref q0), .val (.int 5), .val (.ref b154)] [(.int c0), (.int 0), (.ref b154)])) rfl rfl (hb hby Mg)
    have V162 : Arv Z h162 b154 c154 .char (5 : Int32) [(.int c0), (.int 0), (.int 0), (.int 0), (.int 0)] (.int 0) := by
      have q := Arv.set Ar160 q160 Sz160 Nn160 Hs160 Gf160 (fits_nar_char _) W162 0 rfl (Nat.le_of_ble_eq_true rfl)
      first | exact q | (simp only [Aa rc0, Aa rc1, Aa rc2, Aa rc3, Aa rc4, Aa rc5, Aa rc6, Aa rc7, Aa rc8] at q; exact q)
    have CR163 := CR155.trans (CHr.wr W162 Sf154 CR155.1)
    have N162 := Fr.snoc X162 N00 g_b154
    have O162 := O154.wr W162 g_b154
    have K162 := K154.wr W162 (Or.inr s_b154)
    have ne164 : ¬ (q0 = b154) := (Nat.ne_of_lt (Nat.lt_of_lt_of_le P0.lt (Nat.le_of_eq g154.symm)))
    have f165 := (f156.other W162 ne164)
    obtain ⟨cl166, Ar166, q166, Sz166, Nn166, Hs166, Gf166⟩ := id f165
    have hin167 : ¬ ((1 : Int32) < 0 ∨ cl166.slots.size ≤ ((1 : Int32)).toNatClampNeg) := inb_of Sz166 ⟨by decide, by decide⟩
    have hat168 : cl166.slots[((1 : Int32)).toNatClampNeg]? = some (.int c1) := Hs166.at hin167 rfl
    obtain ⟨cl169, Ar169, q169, Sz169, Nn169, Hs169, Gf169⟩ := id V162
    have hin170 : ¬ ((1 : Int32) < 0 ∨ cl169.slots.size ≤ ((1 : Int32)).toNatClampNeg) := inb_of Sz169 ⟨by decide, by decide⟩
    obtain ⟨T171, h171, X171, e171, W171, st171⟩ := stC X162 hx hZ e162 Ar169 (j := (1 : Int32)) hin170 (g := (mkF m 24 #[.val (.ref q0), .val (.int 5), .val (.ref b154)] [(.int c1), (.int 1), (.ref b154)])) rfl rfl (hb hby Dh)
    have V171 : Arv Z h171 b154 c154 .char (5 : Int32) [(.int c0), (.int c1), (.int 0), (.int 0), (.int 0)] (.int 0) := by
      have q := Arv.set Ar169 q169 Sz169 Nn169 Hs169 Gf169 (fits_nar_char _) W171 1 rfl (Nat.le_of_ble_eq_true rfl)
      first | exact q | (simp only [Aa rc0, Aa rc1, Aa rc2, Aa rc3, Aa rc4, Aa rc5, Aa rc6, Aa rc7, Aa rc8] at q; exact q)
    have sf173 := (Safe.wr W162 Sf154 CR155.1 Sf154)
    have CR172 := CR163.trans (CHr.wr W171 sf173 CR163.1)
    have N171 := Fr.snoc X171 N162 g_b154
    have O171 := O162.wr W171 g_b154
    have K171 := K162.wr W171 (Or.inr s_b154)
    have f174 := (f165.other W171 ne164)
    obtain ⟨cl175, Ar175, q175, Sz175, Nn175, Hs175, Gf175⟩ := id f174
    have hin176 : ¬ ((2 : Int32) < 0 ∨ cl175.slots.size ≤ ((2 : Int32)).toNatClampNeg) := inb_of Sz175 ⟨by decide, by decide⟩
    have hat177 : cl175.slots[((2 : Int32)).toNatClampNeg]? = some (.int c2) := Hs175.at hin176 rfl
    obtain ⟨cl178, Ar178, q178, Sz178, Nn178, Hs178, Gf178⟩ := id V171
    have hin179 : ¬ ((2 : Int32) < 0 ∨ cl178.slots.size ≤ ((2 : Int32)).toNatClampNeg) := inb_of Sz178 ⟨by decide, by decide⟩
    obtain ⟨T180, h180, X180, e180, W180, st180⟩ := stC X171 hx hZ e171 Ar178 (j := (2 : Int32)) hin179 (g := (mkF m 35 #[.val (.ref q0), .val (.int 5), .val (.ref b154)] [(.int c2), (.int 2), (.ref b154)])) rfl rfl (hb hby Yh)
    have V180 : Arv Z h180 b154 c154 .char (5 : Int32) [(.int c0), (.int c1), (.int c2), (.int 0), (.int 0)] (.int 0) := by
      have q := Arv.set Ar178 q178 Sz178 Nn178 Hs178 Gf178 (fits_nar_char _) W180 2 rfl (Nat.le_of_ble_eq_true rfl)
      first | exact q | (simp only [Aa rc0, Aa rc1, Aa rc2, Aa rc3, Aa rc4, Aa rc5, Aa rc6, Aa rc7, Aa rc8] at q; exact q)
    have sf182 := (Safe.wr W171 sf173 CR163.1 sf173)
    have CR181 := CR172.trans (CHr.wr W180 sf182 CR172.1)
    have N180 := Fr.snoc X180 N171 g_b154
    have O180 := O171.wr W180 g_b154
    have K180 := K171.wr W180 (Or.inr s_b154)
    have f183 := (f174.other W180 ne164)
    obtain ⟨cl184, Ar184, q184, Sz184, Nn184, Hs184, Gf184⟩ := id f183
    have hin185 : ¬ ((3 : Int32) < 0 ∨ cl184.slots.size ≤ ((3 : Int32)).toNatClampNeg) := inb_of Sz184 ⟨by decide, by decide⟩
    have hat186 : cl184.slots[((3 : Int32)).toNatClampNeg]? = some (.int c3) := Hs184.at hin185 rfl
    obtain ⟨cl187, Ar187, q187, Sz187, Nn187, Hs187, Gf187⟩ := id V180
    have hin188 : ¬ ((3 : Int32) < 0 ∨ cl187.slots.size ≤ ((3 : Int32)).toNatClampNeg) := inb_of Sz187 ⟨by decide, by decide⟩
    obtain ⟨T189, h189, X189, e189, W189, st189⟩ := stC X180 hx hZ e180 Ar187 (j := (3 : Int32)) hin188 (g := (mkF m 46 #[.val (.ref q0), .val (.int 5), .val (.ref b154)] [(.int c3), (.int 3), (.ref b154)])) rfl rfl (hb hby Yi)
    have V189 : Arv Z h189 b154 c154 .char (5 : Int32) [(.int c0), (.int c1), (.int c2), (.int c3), (.int 0)] (.int 0) := by
      have q := Arv.set Ar187 q187 Sz187 Nn187 Hs187 Gf187 (fits_nar_char _) W189 3 rfl (Nat.le_of_ble_eq_true rfl)
      first | exact q | (simp only [Aa rc0, Aa rc1, Aa rc2, Aa rc3, Aa rc4, Aa rc5, Aa rc6, Aa rc7, Aa rc8] at q; exact q)
    have sf191 := (Safe.wr W180 sf182 CR172.1 sf182)
    have CR190 := CR181.trans (CHr.wr W189 sf191 CR181.1)
    have N189 := Fr.snoc X189 N180 g_b154
    have O189 := O180.wr W189 g_b154
    have K189 := K180.wr W189 (Or.inr s_b154)
    have f192 := (f183.other W189 ne164)
    obtain ⟨cl193, Ar193, q193, Sz193, Nn193, Hs193, Gf193⟩ := id f192
    have hin194 : ¬ ((4 : Int32) < 0 ∨ cl193.slots.size ≤ ((4 : Int32)).toNatClampNeg) := inb_of Sz193 ⟨by decide, by decide⟩
    have hat195 : cl193.slots[((4 : Int32)).toNatClampNeg]? = some (.int c4) := Hs193.at hin194 rfl
    obtain ⟨cl196, Ar196, q196, Sz196, Nn196, Hs196, Gf196⟩ := id V189
    have hin197 : ¬ ((4 : Int32) < 0 ∨ cl196.slots.size ≤ ((4 : Int32)).toNatClampNeg) := inb_of Sz196 ⟨by decide, by decide⟩
    obtain ⟨T198, h198, X198, e198, W198, st198⟩ := stC X189 hx hZ e189 Ar196 (j := (4 : Int32)) hin197 (g := (mkF m 57 #[.val (.ref q0), .val (.int 5), .val (.ref b154)] [(.int c4), (.int 4), (.ref b154)])) rfl rfl (hb hby Rj)
    have V198 : Arv Z h198 b154 c154 .char (5 : Int32) [(.int c0), (.int c1), (.int c2), (.int c3), (.int c4)] (.int 0) := by
      have q := Arv.set Ar196 q196 Sz196 Nn196 Hs196 Gf196 (fits_nar_char _) W198 4 rfl (Nat.le_of_ble_eq_true rfl)
      first | exact q | (simp only [Aa rc0, Aa rc1, Aa rc2, Aa rc3, Aa rc4, Aa rc5, Aa rc6, Aa rc7, Aa rc8] at q; exact q)
    have sf200 := (Safe.wr W189 sf191 CR181.1 sf191)
    have CR199 := CR190.trans (CHr.wr W198 sf200 CR190.1)
    have N198 := Fr.snoc X198 N189 g_b154
    have O198 := O189.wr W198 g_b154
    have K198 := K189.wr W198 (Or.inr s_b154)
    obtain ⟨T201, h201, X201, e201, E201, A201, D201, -, st201⟩ := newO X198 hx hZ hown (Da hw 53 rfl) (Da hw 8 rfl) (Da hw 7 rfl) e198 (g := (mkF m 111 #[.val (.ref q0), .val (.int 5), .val (.ref b154)] [])) rfl (hb hby Zd) (by decide) (by decide)
    obtain ⟨b201, g201⟩ : ∃ z, z = h198.size := ⟨_, rfl⟩
    have Sf201 : Safe Z Ub _ h201 b201 := Safe.ext E201 CR199.1 (Safe.new (Nat.le_of_eq g201.symm))
    have CR202 := CR199.trans (CHr.ext E201 CR199.1)
    rw [← g201] at A201 D201 st201
    have O201 := O198.ext E201
    have g_b201 : n0 ≤ b201 := Nat.le_trans (Nat.le_of_eq O198.1.symm) (Nat.le_trans O198.2.1 (Nat.le_of_eq g201.symm))
    have s_b201 : h0.size ≤ b201 := Nat.le_trans K198.1 (Nat.le_of_eq g201.symm)
    have K201 := K198.ext E201
    have lt_b201 := A201.lt
    have F201_value : Fld Z h201 b201 "java/lang/String" "value" "[B" .null := D201 (Or.inr (Da hw 10 rfl)) (ty := (.array .byte)) (by decide)
    have F201_coder : Fld Z h201 b201 "java/lang/String" "coder" "B" (.int 0) := D201 (Or.inr (Da hw 11 rfl)) (ty := .byte) (by decide)
    have k203 : ∀ t, Va p e below m T201 116 #[.val (.ref q0), .val (.int 5), .val (.ref b154)] [(.ref b154), (.ref b201), (.ref b201)] t → Ab p e below m s₁ #[(.ref q0), (.int nq)] 3 t := by
      intro t k
      refine k153 t ?_
      refine XS.iloadN X00.here hx rfl (hb hby Zf) rfl ?_
      refine st154 _ ?_
      refine XS.astoreN X154.here hx rfl (hb hby Bg) rfl rfl (l' := #[.val (.ref q0), .val (.int 5), .val (.ref b154)]) rfl ?_
      refine XS.iloadN X154.here hx rfl (hb hby Dg) rfl ?_
      refine XS.ifNo X154.here hx rfl (hb hby Gg) rfl ((if0 _ _).trans (tlt (by decide : (0 : Int32) < (5 : Int32))).2.2.2) ?_
      refine XS.aloadN X154.here hx rfl (hb hby Ug) rfl rfl ?_
      refine XS.iconst X154.here hx rfl (hb hby Vg) ?_
      refine XS.aloadN X154.here hx rfl (hb hby Ig) rfl rfl ?_
      show Va p e below m T154 11 #[.val (.ref q0), .val (.int 5), .val (.ref b154)] [(.ref q0), (.int 0), (.ref b154)] t
      refine XS.iconst X154.here hx rfl (hb hby Kg) ?_
      refine X154.caload hx (j := (0 : Int32)) (v := (.int c0)) (by rw [e154]; exact Ar157.1) (State.isArrayOf_alike hZ.alike Ar157.2.1) Ar157.2.2 hin158 hat159 (g := (mkF m 12 #[.val (.ref q0), .val (.int 5), .val (.ref b154)] [(.int 0), (.ref q0), (.int 0), (.ref b154)])) rfl rfl (hb hby Lg) _ ?_
      refine st162 _ ?_
      refine XS.iloadN X162.here hx rfl (hb hby Ke) rfl ?_
      refine XS.iconst X162.here hx rfl (hb hby Le) ?_
      refine XS.icmpNo X162.here hx rfl (hb hby Me) rfl (tlt (by decide : (1 : Int32) < (5 : Int32))).2.2.2 ?_
      refine XS.aloadN X162.here hx rfl (hb hby Wg) rfl rfl ?_
      refine XS.iconst X162.here hx rfl (hb hby Yg) ?_
      show Va p e below m T162 21 #[.val (.ref q0), .val (.int 5), .val (.ref b154)] [(.int 1), (.ref b154)] t
      refine XS.aloadN X162.here hx rfl (hb hby Zg) rfl rfl ?_
      refine XS.iconst X162.here hx rfl (hb hby Ah) ?_
      refine X162.caload hx (j := (1 : Int32)) (v := (.int c1)) (by rw [e162]; exact Ar166.1) (State.isArrayOf_alike hZ.alike Ar166.2.1) Ar166.2.2 hin167 hat168 (g := (mkF m 23 #[.val (.ref q0), .val (.int 5), .val (.ref b154)] [(.int 1), (.ref q0), (.int 1), (.ref b154)])) rfl rfl (hb hby Bh) _ ?_
      refine st171 _ ?_
      refine XS.iloadN X171.here hx rfl (hb hby Pe) rfl ?_
      refine XS.iconst X171.here hx rfl (hb hby Re) ?_
      refine XS.icmpNo X171.here hx rfl (hb hby Ue) rfl (tlt (by decide : (2 : Int32) < (5 : Int32))).2.2.2 ?_
      refine XS.aloadN X171.here hx rfl (hb hby Ph) rfl rfl ?_
      show Va p e below m T171 31 #[.val (.ref q0), .val (.int 5), .val (.ref b154)] [(.ref b154)] t
      refine XS.iconst X171.here hx rfl (hb hby Rh) ?_
      refine XS.aloadN X171.here hx rfl (hb hby Uh) rfl rfl ?_
      refine XS.iconst X171.here hx rfl (hb hby Vh) ?_
      refine X171.caload hx (j := (2 : Int32)) (v := (.int c2)) (by rw [e171]; exact Ar175.1) (State.isArrayOf_alike hZ.alike Ar175.2.1) Ar175.2.2 hin176 hat177 (g := (mkF m 34 #[.val (.ref q0), .val (.int 5), .val (.ref b154)] [(.int 2), (.ref q0), (.int 2), (.ref b154)])) rfl rfl (hb hby Wh) _ ?_
      refine st180 _ ?_
      refine XS.iloadN X180.here hx rfl (hb hby Ve) rfl ?_
      refine XS.iconst X180.here hx rfl (hb hby We) ?_
      refine XS.icmpNo X180.here hx rfl (hb hby Ye) rfl (tlt (by decide : (3 : Int32) < (5 : Int32))).2.2.2 ?_
      show Va p e below m T180 41 #[.val (.ref q0), .val (.int 5), .val (.ref b154)] [] t
      refine XS.aloadN X180.here hx rfl (hb hby Pi) rfl rfl ?_
      refine XS.iconst X180.here hx rfl (hb hby Ri) ?_
      refine XS.aloadN X180.here hx rfl (hb hby Ui) rfl rfl ?_
      refine XS.iconst X180.here hx rfl (hb hby Vi) ?_
      refine X180.caload hx (j := (3 : Int32)) (v := (.int c3)) (by rw [e180]; exact Ar184.1) (State.isArrayOf_alike hZ.alike Ar184.2.1) Ar184.2.2 hin185 hat186 (g := (mkF m 45 #[.val (.ref q0), .val (.int 5), .val (.ref b154)] [(.int 3), (.ref q0), (.int 3), (.ref b154)])) rfl rfl (hb hby Wi) _ ?_
      refine st189 _ ?_
      refine XS.iloadN X189.here hx rfl (hb hby Ze) rfl ?_
      refine XS.iconst X189.here hx rfl (hb hby Af) ?_
      show Va p e below m T189 49 #[.val (.ref q0), .val (.int 5), .val (.ref b154)] [(.int 4), (.int 5)] t
      refine XS.icmpNo X189.here hx rfl (hb hby Bf) rfl (tlt (by decide : (4 : Int32) < (5 : Int32))).2.2.2 ?_
      refine XS.aloadN X189.here hx rfl (hb hby Ij) rfl rfl ?_
      refine XS.iconst X189.here hx rfl (hb hby Kj) ?_
      refine XS.aloadN X189.here hx rfl (hb hby Lj) rfl rfl ?_
      refine XS.iconst X189.here hx rfl (hb hby Mj) ?_
      refine X189.caload hx (j := (4 : Int32)) (v := (.int c4)) (by rw [e189]; exact Ar193.1) (State.isArrayOf_alike hZ.alike Ar193.2.1) Ar193.2.2 hin194 hat195 (g := (mkF m 56 #[.val (.ref q0), .val (.int 5), .val (.ref b154)] [(.int 4), (.ref q0), (.int 4), (.ref b154)])) rfl rfl (hb hby Pj) _ ?_
      refine st198 _ ?_
      refine XS.iloadN X198.here hx rfl (hb hby Df) rfl ?_
      show Va p e below m T198 59 #[.val (.ref q0), .val (.int 5), .val (.ref b154)] [(.int 5)] t
      refine XS.iconst X198.here hx rfl (hb hby Gf) ?_
      refine XS.icmpYes X198.here hx rfl (pc0 := 60) (pc' := 69) rfl (hb hby Hf) rfl (flt (by decide : ¬ ((5 : Int32) < (5 : Int32)))).2.2.2 (by decide) (by decide) ?_
      refine XS.iloadN X198.here hx rfl (hb hby Kf) rfl ?_
      refine XS.bipush X198.here hx rfl (hb hby Lf) ?_
      refine XS.icmpYes X198.here hx rfl (pc0 := 72) (pc' := 83) rfl (hb hby Mf) rfl (flt (by decide : ¬ ((6 : Int32) < (5 : Int32)))).2.2.2 (by decide) (by decide) ?_
      refine XS.iloadN X198.here hx rfl (hb hby Pf) rfl ?_
      refine XS.bipush X198.here hx rfl (hb hby Rf) ?_
      refine XS.icmpYes X198.here hx rfl (pc0 := 86) (pc' := 97) rfl (hb hby Uf) rfl (flt (by decide : ¬ ((7 : Int32) < (5 : Int32)))).2.2.2 (by decide) (by decide) ?_
      show Va p e below m T198 97 #[.val (.ref q0), .val (.int 5), .val (.ref b154)] [] t
      refine XS.iloadN X198.here hx rfl (hb hby Vf) rfl ?_
      refine XS.bipush X198.here hx rfl (hb hby Wf) ?_
      refine XS.icmpYes X198.here hx rfl (pc0 := 100) (pc' := 111) rfl (hb hby Yd) rfl (flt (by decide : ¬ ((8 : Int32) < (5 : Int32)))).2.2.2 (by decide) (by decide) ?_
      refine st201 _ ?_
      refine XS.dup X201.here hx rfl (hb hby Ae) rfl rfl ?_
      refine XS.aloadN X201.here hx rfl (hb hby Be) rfl rfl ?_
      exact k
    have f204 := (V198.ext E201)
    have hp205 : ∀ c ∈ ([c0, c1, c2, c3, c4] : List Int32), ¬ c < 0 ∧ ¬ (255 : Int32) < c := (by simp only [List.mem_cons, List.not_mem_nil, or_false, forall_eq_or_imp, forall_eq]; exact ⟨rc0, rc1, rc2, rc3, rc4⟩)
    obtain ⟨_, _, ⟨T206, L206, k206, n206⟩, -, X206, ⟨Lc206, hQ206, l206, y206, z206⟩, st206⟩ := X201.specialBack hx (y := Ml) rfl hown (mvT hZ (Da hw 54 rfl)) (mvT hZ (Da hw 55 rfl)) (mvT hZ (Da hw 56 rfl)) (by decide) (StrChars.Road.backV (W := 1) hZ (Hm hw) (kI := 4) (Da hw 8 rfl) (cs := ([c0, c1, c2, c3, c4] : List Int32)) (bs := (([c0, c1, c2, c3, c4] : List Int32)).map (fun c => c.toInt8.toInt32)) (n := 5) g_b201 (Nat.le_trans (Nat.le_of_eq O201.1.symm) O201.2.1) A201 F201_value F201_coder f204 (Bb.ext O201.2) Za rfl rfl (by decide) (by decide) hp205 rfl (by decide) (by decide)) (g := (mkF m 116 #[.val (.ref q0), .val (.int 5), .val (.ref b154)] [(.ref b154), (.ref b201), (.ref b201)])) rfl (by rw [hml]; rfl) (Steps.refl _) (a := b201) (argsL := [(.ref b154)]) (rest := [(.ref b201)]) (lenOf Dl rfl) rfl (by show 2 * 0 + _ ≤ _; exact Nat.le_of_eq rfl) (hb hby De) (fun _ _ => ⟨rfl, e201, (by decide : 2 + 1 ≤ _), (by decide : 9 + 5 ≤ _)⟩)
    dsimp only [Pt.U, Pt.locs, Pt.cells, Pt.slots] at X206 l206 y206 z206 st206 hQ206
    subst l206 y206 z206
    obtain ⟨rfl, N206q, Kc206, Ex206, Fc206, t206, kb206, g_t206, gs_t206, nx206, Fv206, Av206⟩ := hQ206
    have N206 := Fr.app N198 N206q
    have O206 := O201.keep Kc206 (allS g_b201 all0)
    have CR207 := CR202.trans (CHr.keep Kc206 (allS Sf201 all0) CR202.1)
    have K206 := K201.trans Kc206 (allS (Or.inr s_b201) all0)
    have s_t206 := Nat.le_trans K201.1 gs_t206
    have lt_t206 := Av206.lt
    have k208 : ∀ t, Va p e below m T206 119 #[.val (.ref q0), .val (.int 5), .val (.ref b154)] [(.ref b201)] t → Ab p e below m s₁ #[(.ref q0), (.int nq)] 3 t := by
      intro t k
      refine k203 t ?_
      refine st206.trans ?_
      exact k
    obtain ⟨fs, hr, hrun, hended, hRW⟩ := X206.leaveW hS (by exact (Nat.le_trans (Nat.le_trans (Nat.le_trans (Nat.le_trans (Nat.le_trans (Nat.le_trans (Nat.le_trans (Nat.le_trans (Nat.zero_le _) E154.1) (Keep.of_wr W162).1) (Keep.of_wr W171).1) (Keep.of_wr W180).1) (Keep.of_wr W189).1) (Keep.of_wr W198).1) E201.1) Kc206.1)) (v := some (.ref b201)) (fun h => by rw [Bd.returns] at h; cases h)
    refine hNG ⟨_, _, k208 _ ?_, hrun, hended, _, _, rfl, ?_, by rw [hh]; show CHr Z Ub s.vm h0 T206.vm T206.heap; exact CR207.trans (CHv.at X206 hZ (Vd hw) CR207.1), hRW.1, hRW.2.1, hRW.2.2.1, hRW.2.2.2.mono (by decide) (by decide)⟩
    · exact retOut X206 hx (t := (.object "java/lang/String")) Bd.returns rfl (Or.inr (Or.inr (Or.inr (Or.inr ⟨rfl, rfl, rfl⟩)))) (hb hby Ge) hr
    · show Km Z q0 kq nq c0 c1 c2 c3 c4 c5 c6 c7 c8 Ra Ya Pa Wa Ma Ga Ka Ba Ua Ha La Ia h0 n0 _ T206.heap _
      exact ⟨b201, t206, kb206, (5 : Int32), ((([c0, c1, c2, c3, c4] : List Int32)).map (fun c => c.toInt8.toInt32)).map Value.int, ([c0, c1, c2, c3, c4] : List Int32), rfl, N206, O206, K206, g_b201, s_b201, Ex206, Fc206, Fv206, Av206, StrChars.Road.codOf (cs := ([c0, c1, c2, c3, c4] : List Int32)) (n := 5) rfl (fun c hc => (hp205 c hc).2), hp205, (Nat.le_of_ble_eq_true rfl)⟩
  · have k209 : ∀ t, Va p e below m s₁ 0 #[.val (.ref q0), .val (.int 6), .unset] [] t → Ab p e below m s₁ #[(.ref q0), (.int nq)] 3 t := by
      intro t k
      refine k00 t ?_
      rw [hs10]
      exact k
    obtain ⟨T210, h210, c210, X210, e210, E210, A210, st210⟩ := newP X00 hx hZ (Da hw 1 rfl) e00 (g := (mkF m 1 #[.val (.ref q0), .val (.int 6), .unset] [(.int 6)])) rfl (hb hby Ag) rfl (by decide) (cap := 6) (by decide) (by decide) (by decide) (by decide)
    obtain ⟨b210, g210⟩ : ∃ z, z = h0.size := ⟨_, rfl⟩
    have Sf210 : Safe Z Ub _ h210 b210 := Safe.ext E210 CR0.1 (Safe.new (Nat.le_of_eq g210.symm))
    have CR211 := CR0.trans (CHr.ext E210 CR0.1)
    rw [← g210] at A210 st210
    have O210 := O0.ext E210
    have g_b210 : n0 ≤ b210 := Nat.le_trans (Nat.le_of_eq O0.1.symm) (Nat.le_trans O0.2.1 (Nat.le_of_eq g210.symm))
    have s_b210 : h0.size ≤ b210 := Nat.le_trans K00.1 (Nat.le_of_eq g210.symm)
    have K210 := K00.ext E210
    have V210 : Arv Z h210 b210 c210 .char (6 : Int32) [(.int 0), (.int 0), (.int 0), (.int 0), (.int 0), (.int 0)] (.int 0) := (Arv.new A210 (by decide)).pad (pad_rep [] (.int 0) 6)
    have lt_b210 := V210.lt
    have f212 := (P0.ext E210)
    obtain ⟨cl213, Ar213, q213, Sz213, Nn213, Hs213, Gf213⟩ := id f212
    have hin214 : ¬ ((0 : Int32) < 0 ∨ cl213.slots.size ≤ ((0 : Int32)).toNatClampNeg) := inb_of Sz213 ⟨by decide, by decide⟩
    have hat215 : cl213.slots[((0 : Int32)).toNatClampNeg]? = some (.int c0) := Hs213.at hin214 rfl
    obtain ⟨cl216, Ar216, q216, Sz216, Nn216, Hs216, Gf216⟩ := id V210
    have hin217 : ¬ ((0 : Int32) < 0 ∨ cl216.slots.size ≤ ((0 : Int32)).toNatClampNeg) := inb_of Sz216 ⟨by decide, by decide⟩
    obtain ⟨T218, h218, X218, e218, W218, st218⟩ := stC X210 hx hZ e210 Ar216 (j := (0 : Int32)) hin217 (g := (mkF m 13 #[.val (.ref q0), .val (.int 6), .val (.ref b210)] [(.int c0), (.int 0), (.ref b210)])) rfl rfl (hb hby Mg)
    have V218 : Arv Z h218 b210 c210 .char (6 : Int32) [(.int c0), (.int 0), (.int 0), (.int 0), (.int 0), (.int 0)] (.int 0) := by
      have q := Arv.set Ar216 q216 Sz216 Nn216 Hs216 Gf216 (fits_nar_char _) W218 0 rfl (Nat.le_of_ble_eq_true rfl)
      first | exact q | (simp only [Aa rc0, Aa rc1, Aa rc2, Aa rc3, Aa rc4, Aa rc5, Aa rc6, Aa rc7, Aa rc8] at q; exact q)
    have CR219 := CR211.trans (CHr.wr W218 Sf210 CR211.1)
    have N218 := Fr.snoc X218 N00 g_b210
    have O218 := O210.wr W218 g_b210
    have K218 := K210.wr W218 (Or.inr s_b210)
    have ne220 : ¬ (q0 = b210) := (Nat.ne_of_lt (Nat.lt_of_lt_of_le P0.lt (Nat.le_of_eq g210.symm)))
    have f221 := (f212.other W218 ne220)
    obtain ⟨cl222, Ar222, q222, Sz222, Nn222, Hs222, Gf222⟩ := id f221
    have hin223 : ¬ ((1 : Int32) < 0 ∨ cl222.slots.size ≤ ((1 : Int32)).toNatClampNeg) := inb_of Sz222 ⟨by decide, by decide⟩
    have hat224 : cl222.slots[((1 : Int32)).toNatClampNeg]? = some (.int c1) := Hs222.at hin223 rfl
    obtain ⟨cl225, Ar225, q225, Sz225, Nn225, Hs225, Gf225⟩ := id V218
    have hin226 : ¬ ((1 : Int32) < 0 ∨ cl225.slots.size ≤ ((1 : Int32)).toNatClampNeg) := inb_of Sz225 ⟨by decide, by decide⟩
    obtain ⟨T227, h227, X227, e227, W227, st227⟩ := stC X218 hx hZ e218 Ar225 (j := (1 : Int32)) hin226 (g := (mkF m 24 #[.val (.ref q0), .val (.int 6), .val (.ref b210)] [(.int c1), (.int 1), (.ref b210)])) rfl rfl (hb hby Dh)
    have V227 : Arv Z h227 b210 c210 .char (6 : Int32) [(.int c0), (.int c1), (.int 0), (.int 0), (.int 0), (.int 0)] (.int 0) := by
      have q := Arv.set Ar225 q225 Sz225 Nn225 Hs225 Gf225 (fits_nar_char _) W227 1 rfl (Nat.le_of_ble_eq_true rfl)
      first | exact q | (simp only [Aa rc0, Aa rc1, Aa rc2, Aa rc3, Aa rc4, Aa rc5, Aa rc6, Aa rc7, Aa rc8] at q; exact q)
    have sf229 := (Safe.wr W218 Sf210 CR211.1 Sf210)
    have CR228 := CR219.trans (CHr.wr W227 sf229 CR219.1)
    have N227 := Fr.snoc X227 N218 g_b210
    have O227 := O218.wr W227 g_b210
    have K227 := K218.wr W227 (Or.inr s_b210)
    have f230 := (f221.other W227 ne220)
    obtain ⟨cl231, Ar231, q231, Sz231, Nn231, Hs231, Gf231⟩ := id f230
    have hin232 : ¬ ((2 : Int32) < 0 ∨ cl231.slots.size ≤ ((2 : Int32)).toNatClampNeg) := inb_of Sz231 ⟨by decide, by decide⟩
    have hat233 : cl231.slots[((2 : Int32)).toNatClampNeg]? = some (.int c2) := Hs231.at hin232 rfl
    obtain ⟨cl234, Ar234, q234, Sz234, Nn234, Hs234, Gf234⟩ := id V227
    have hin235 : ¬ ((2 : Int32) < 0 ∨ cl234.slots.size ≤ ((2 : Int32)).toNatClampNeg) := inb_of Sz234 ⟨by decide, by decide⟩
    obtain ⟨T236, h236, X236, e236, W236, st236⟩ := stC X227 hx hZ e227 Ar234 (j := (2 : Int32)) hin235 (g := (mkF m 35 #[.val (.ref q0), .val (.int 6), .val (.ref b210)] [(.int c2), (.int 2), (.ref b210)])) rfl rfl (hb hby Yh)
    have V236 : Arv Z h236 b210 c210 .char (6 : Int32) [(.int c0), (.int c1), (.int c2), (.int 0), (.int 0), (.int 0)] (.int 0) := by
      have q := Arv.set Ar234 q234 Sz234 Nn234 Hs234 Gf234 (fits_nar_char _) W236 2 rfl (Nat.le_of_ble_eq_true rfl)
      first | exact q | (simp only [Aa rc0, Aa rc1, Aa rc2, Aa rc3, Aa rc4, Aa rc5, Aa rc6, Aa rc7, Aa rc8] at q; exact q)
    have sf238 := (Safe.wr W227 sf229 CR219.1 sf229)
    have CR237 := CR228.trans (CHr.wr W236 sf238 CR228.1)
    have N236 := Fr.snoc X236 N227 g_b210
    have O236 := O227.wr W236 g_b210
    have K236 := K227.wr W236 (Or.inr s_b210)
    have f239 := (f230.other W236 ne220)
    obtain ⟨cl240, Ar240, q240, Sz240, Nn240, Hs240, Gf240⟩ := id f239
    have hin241 : ¬ ((3 : Int32) < 0 ∨ cl240.slots.size ≤ ((3 : Int32)).toNatClampNeg) := inb_of Sz240 ⟨by decide, by decide⟩
    have hat242 : cl240.slots[((3 : Int32)).toNatClampNeg]? = some (.int c3) := Hs240.at hin241 rfl
    obtain ⟨cl243, Ar243, q243, Sz243, Nn243, Hs243, Gf243⟩ := id V236
    have hin244 : ¬ ((3 : Int32) < 0 ∨ cl243.slots.size ≤ ((3 : Int32)).toNatClampNeg) := inb_of Sz243 ⟨by decide, by decide⟩
    obtain ⟨T245, h245, X245, e245, W245, st245⟩ := stC X236 hx hZ e236 Ar243 (j := (3 : Int32)) hin244 (g := (mkF m 46 #[.val (.ref q0), .val (.int 6), .val (.ref b210)] [(.int c3), (.int 3), (.ref b210)])) rfl rfl (hb hby Yi)
    have V245 : Arv Z h245 b210 c210 .char (6 : Int32) [(.int c0), (.int c1), (.int c2), (.int c3), (.int 0), (.int 0)] (.int 0) := by
      have q := Arv.set Ar243 q243 Sz243 Nn243 Hs243 Gf243 (fits_nar_char _) W245 3 rfl (Nat.le_of_ble_eq_true rfl)
      first | exact q | (simp only [Aa rc0, Aa rc1, Aa rc2, Aa rc3, Aa rc4, Aa rc5, Aa rc6, Aa rc7, Aa rc8] at q; exact q)
    have sf247 := (Safe.wr W236 sf238 CR228.1 sf238)
    have CR246 := CR237.trans (CHr.wr W245 sf247 CR237.1)
    have N245 := Fr.snoc X245 N236 g_b210
    have O245 := O236.wr W245 g_b210
    have K245 := K236.wr W245 (Or.inr s_b210)
    have f248 := (f239.other W245 ne220)
    obtain ⟨cl249, Ar249, q249, Sz249, Nn249, Hs249, Gf249⟩ := id f248
    have hin250 : ¬ ((4 : Int32) < 0 ∨ cl249.slots.size ≤ ((4 : Int32)).toNatClampNeg) := inb_of Sz249 ⟨by decide, by decide⟩
    have hat251 : cl249.slots[((4 : Int32)).toNatClampNeg]? = some (.int c4) := Hs249.at hin250 rfl
    obtain ⟨cl252, Ar252, q252, Sz252, Nn252, Hs252, Gf252⟩ := id V245
    have hin253 : ¬ ((4 : Int32) < 0 ∨ cl252.slots.size ≤ ((4 : Int32)).toNatClampNeg) := inb_of Sz252 ⟨by decide, by decide⟩
    obtain ⟨T254, h254, X254, e254, W254, st254⟩ := stC X245 hx hZ e245 Ar252 (j := (4 : Int32)) hin253 (g := (mkF m 57 #[.val (.ref q0), .val (.int 6), .val (.ref b210)] [(.int c4), (.int 4), (.ref b210)])) rfl rfl (hb hby Rj)
    have V254 : Arv Z h254 b210 c210 .char (6 : Int32) [(.int c0), (.int c1), (.int c2), (.int c3), (.int c4), (.int 0)] (.int 0) := by
      have q := Arv.set Ar252 q252 Sz252 Nn252 Hs252 Gf252 (fits_nar_char _) W254 4 rfl (Nat.le_of_ble_eq_true rfl)
      first | exact q | (simp only [Aa rc0, Aa rc1, Aa rc2, Aa rc3, Aa rc4, Aa rc5, Aa rc6, Aa rc7, Aa rc8] at q; exact q)
    have sf256 := (Safe.wr W245 sf247 CR237.1 sf247)
    have CR255 := CR246.trans (CHr.wr W254 sf256 CR246.1)
    have N254 := Fr.snoc X254 N245 g_b210
    have O254 := O245.wr W254 g_b210
    have K254 := K245.wr W254 (Or.inr s_b210)
    have f257 := (f248.other W254 ne220)
    obtain ⟨cl258, Ar258, q258, Sz258, Nn258, Hs258, Gf258⟩ := id f257
    have hin259 : ¬ ((5 : Int32) < 0 ∨ cl258.slots.size ≤ ((5 : Int32)).toNatClampNeg) := inb_of Sz258 ⟨by decide, by decide⟩
    have hat260 : cl258.slots[((5 : Int32)).toNatClampNeg]? = some (.int c5) := Hs258.at hin259 rfl
    obtain ⟨cl261, Ar261, q261, Sz261, Nn261, Hs261, Gf261⟩ := id V254
    have hin262 : ¬ ((5 : Int32) < 0 ∨ cl261.slots.size ≤ ((5 : Int32)).toNatClampNeg) := inb_of Sz261 ⟨by decide, by decide⟩
    obtain ⟨T263, h263, X263, e263, W263, st263⟩ := stC X254 hx hZ e254 Ar261 (j := (5 : Int32)) hin262 (g := (mkF m 68 #[.val (.ref q0), .val (.int 6), .val (.ref b210)] [(.int c5), (.int 5), (.ref b210)])) rfl rfl (hb hby Zk)
    have V263 : Arv Z h263 b210 c210 .char (6 : Int32) [(.int c0), (.int c1), (.int c2), (.int c3), (.int c4), (.int c5)] (.int 0) := by
      have q := Arv.set Ar261 q261 Sz261 Nn261 Hs261 Gf261 (fits_nar_char _) W263 5 rfl (Nat.le_of_ble_eq_true rfl)
      first | exact q | (simp only [Aa rc0, Aa rc1, Aa rc2, Aa rc3, Aa rc4, Aa rc5, Aa rc6, Aa rc7, Aa rc8] at q; exact q)
    have sf265 := (Safe.wr W254 sf256 CR246.1 sf256)
    have CR264 := CR255.trans (CHr.wr W263 sf265 CR255.1)
    have N263 := Fr.snoc X263 N254 g_b210
    have O263 := O254.wr W263 g_b210
    have K263 := K254.wr W263 (Or.inr s_b210)
    obtain ⟨T266, h266, X266, e266, E266, A266, D266, -, st266⟩ := newO X263 hx hZ hown (Da hw 53 rfl) (Da hw 8 rfl) (Da hw 7 rfl) e263 (g := (mkF m 111 #[.val (.ref q0), .val (.int 6), .val (.ref b210)] [])) rfl (hb hby Zd) (by decide) (by decide)
    obtain ⟨b266, g266⟩ : ∃ z, z = h263.size := ⟨_, rfl⟩
    have Sf266 : Safe Z Ub _ h266 b266 := Safe.ext E266 CR264.1 (Safe.new (Nat.le_of_eq g266.symm))
    have CR267 := CR264.trans (CHr.ext E266 CR264.1)
    rw [← g266] at A266 D266 st266
    have O266 := O263.ext E266
    have g_b266 : n0 ≤ b266 := Nat.le_trans (Nat.le_of_eq O263.1.symm) (Nat.le_trans O263.2.1 (Nat.le_of_eq g266.symm))
    have s_b266 : h0.size ≤ b266 := Nat.le_trans K263.1 (Nat.le_of_eq g266.symm)
    have K266 := K263.ext E266
    have lt_b266 := A266.lt
    have F266_value : Fld Z h266 b266 "java/lang/String" "value" "[B" .null := D266 (Or.inr (Da hw 10 rfl)) (ty := (.array .byte)) (by decide)
    have F266_coder : Fld Z h266 b266 "java/lang/String" "coder" "B" (.int 0) := D266 (Or.inr (Da hw 11 rfl)) (ty := .byte) (by decide)
    have k268 : ∀ t, Va p e below m T266 116 #[.val (.ref q0), .val (.int 6), .val (.ref b210)] [(.ref b210), (.ref b266), (.ref b266)] t → Ab p e below m s₁ #[(.ref q0), (.int nq)] 3 t := by
      intro t k
      refine k209 t ?_
      refine XS.iloadN X00.here hx rfl (hb hby Zf) rfl ?_
      refine st210 _ ?_
      refine XS.astoreN X210.here hx rfl (hb hby Bg) rfl rfl (l' := #[.val (.ref q0), .val (.int 6), .val (.ref b210)]) rfl ?_
      refine XS.iloadN X210.here hx rfl (hb hby Dg) rfl ?_
      refine XS.ifNo X210.here hx rfl (hb hby Gg) rfl ((if0 _ _).trans (tlt (by decide : (0 : Int32) < (6 : Int32))).2.2.2) ?_
      refine XS.aloadN X210.here hx rfl (hb hby Ug) rfl rfl ?_
      refine XS.iconst X210.here hx rfl (hb hby Vg) ?_
      refine XS.aloadN X210.here hx rfl (hb hby Ig) rfl rfl ?_
      show Va p e below m T210 11 #[.val (.ref q0), .val (.int 6), .val (.ref b210)] [(.ref q0), (.int 0), (.ref b210)] t
      refine XS.iconst X210.here hx rfl (hb hby Kg) ?_
      refine X210.caload hx (j := (0 : Int32)) (v := (.int c0)) (by rw [e210]; exact Ar213.1) (State.isArrayOf_alike hZ.alike Ar213.2.1) Ar213.2.2 hin214 hat215 (g := (mkF m 12 #[.val (.ref q0), .val (.int 6), .val (.ref b210)] [(.int 0), (.ref q0), (.int 0), (.ref b210)])) rfl rfl (hb hby Lg) _ ?_
      refine st218 _ ?_
      refine XS.iloadN X218.here hx rfl (hb hby Ke) rfl ?_
      refine XS.iconst X218.here hx rfl (hb hby Le) ?_
      refine XS.icmpNo X218.here hx rfl (hb hby Me) rfl (tlt (by decide : (1 : Int32) < (6 : Int32))).2.2.2 ?_
      refine XS.aloadN X218.here hx rfl (hb hby Wg) rfl rfl ?_
      refine XS.iconst X218.here hx rfl (hb hby Yg) ?_
      show Va p e below m T218 21 #[.val (.ref q0), .val (.int 6), .val (.ref b210)] [(.int 1), (.ref b210)] t
      refine XS.aloadN X218.here hx rfl (hb hby Zg) rfl rfl ?_
      refine XS.iconst X218.here hx rfl (hb hby Ah) ?_
      refine X218.caload hx (j := (1 : Int32)) (v := (.int c1)) (by rw [e218]; exact Ar222.1) (State.isArrayOf_alike hZ.alike Ar222.2.1) Ar222.2.2 hin223 hat224 (g := (mkF m 23 #[.val (.ref q0), .val (.int 6), .val (.ref b210)] [(.int 1), (.ref q0), (.int 1), (.ref b210)])) rfl rfl (hb hby Bh) _ ?_
      refine st227 _ ?_
      refine XS.iloadN X227.here hx rfl (hb hby Pe) rfl ?_
      refine XS.iconst X227.here hx rfl (hb hby Re) ?_
      refine XS.icmpNo X227.here hx rfl (hb hby Ue) rfl (tlt (by decide : (2 : Int32) < (6 : Int32))).2.2.2 ?_
      refine XS.aloadN X227.here hx rfl (hb hby Ph) rfl rfl ?_
      show Va p e below m T227 31 #[.val (.ref q0), .val (.int 6), .val (.ref b210)] [(.ref b210)] t
      refine XS.iconst X227.here hx rfl (hb hby Rh) ?_
      refine XS.aloadN X227.here hx rfl (hb hby Uh) rfl rfl ?_
      refine XS.iconst X227.here hx rfl (hb hby Vh) ?_
      refine X227.caload hx (j := (2 : Int32)) (v := (.int c2)) (by rw [e227]; exact Ar231.1) (State.isArrayOf_alike hZ.alike Ar231.2.1) Ar231.2.2 hin232 hat233 (g := (mkF m 34 #[.val (.ref q0), .val (.int 6), .val (.ref b210)] [(.int 2), (.ref q0), (.int 2), (.ref b210)])) rfl rfl (hb hby Wh) _ ?_
      refine st236 _ ?_
      refine XS.iloadN X236.here hx rfl (hb hby Ve) rfl ?_
      refine XS.iconst X236.here hx rfl (hb hby We) ?_
      refine XS.icmpNo X236.here hx rfl (hb hby Ye) rfl (tlt (by decide : (3 : Int32) < (6 : Int32))).2.2.2 ?_
      show Va p e below m T236 41 #[.val (.ref q0), .val (.int 6), .val (.ref b210)] [] t
      refine XS.aloadN X236.here hx rfl (hb hby Pi) rfl rfl ?_
      refine XS.iconst X236.here hx rfl (hb hby Ri) ?_
      refine XS.aloadN X236.here hx rfl (hb hby Ui) rfl rfl ?_
      refine XS.iconst X236.here hx rfl (hb hby Vi) ?_
      refine X236.caload hx (j := (3 : Int32)) (v := (.int c3)) (by rw [e236]; exact Ar240.1) (State.isArrayOf_alike hZ.alike Ar240.2.1) Ar240.2.2 hin241 hat242 (g := (mkF m 45 #[.val (.ref q0), .val (.int 6), .val (.ref b210)] [(.int 3), (.ref q0), (.int 3), (.ref b210)])) rfl rfl (hb hby Wi) _ ?_
      refine st245 _ ?_
      refine XS.iloadN X245.here hx rfl (hb hby Ze) rfl ?_
      refine XS.iconst X245.here hx rfl (hb hby Af) ?_
      show Va p e below m T245 49 #[.val (.ref q0), .val (.int 6), .val (.ref b210)] [(.int 4), (.int 6)] t
      refine XS.icmpNo X245.here hx rfl (hb hby Bf) rfl (tlt (by decide : (4 : Int32) < (6 : Int32))).2.2.2 ?_
      refine XS.aloadN X245.here hx rfl (hb hby Ij) rfl rfl ?_
      refine XS.iconst X245.here hx rfl (hb hby Kj) ?_
      refine XS.aloadN X245.here hx rfl (hb hby Lj) rfl rfl ?_
      refine XS.iconst X245.here hx rfl (hb hby Mj) ?_
      refine X245.caload hx (j := (4 : Int32)) (v := (.int c4)) (by rw [e245]; exact Ar249.1) (State.isArrayOf_alike hZ.alike Ar249.2.1) Ar249.2.2 hin250 hat251 (g := (mkF m 56 #[.val (.ref q0), .val (.int 6), .val (.ref b210)] [(.int 4), (.ref q0), (.int 4), (.ref b210)])) rfl rfl (hb hby Pj) _ ?_
      refine st254 _ ?_
      refine XS.iloadN X254.here hx rfl (hb hby Df) rfl ?_
      show Va p e below m T254 59 #[.val (.ref q0), .val (.int 6), .val (.ref b210)] [(.int 6)] t
      refine XS.iconst X254.here hx rfl (hb hby Gf) ?_
      refine XS.icmpNo X254.here hx rfl (hb hby Hf) rfl (tlt (by decide : (5 : Int32) < (6 : Int32))).2.2.2 ?_
      refine XS.aloadN X254.here hx rfl (hb hby Rk) rfl rfl ?_
      refine XS.iconst X254.here hx rfl (hb hby Uk) ?_
      refine XS.aloadN X254.here hx rfl (hb hby Vk) rfl rfl ?_
      refine XS.iconst X254.here hx rfl (hb hby Wk) ?_
      refine X254.caload hx (j := (5 : Int32)) (v := (.int c5)) (by rw [e254]; exact Ar258.1) (State.isArrayOf_alike hZ.alike Ar258.2.1) Ar258.2.2 hin259 hat260 (g := (mkF m 67 #[.val (.ref q0), .val (.int 6), .val (.ref b210)] [(.int 5), (.ref q0), (.int 5), (.ref b210)])) rfl rfl (hb hby Yk) _ ?_
      refine st263 _ ?_
      show Va p e below m T263 69 #[.val (.ref q0), .val (.int 6), .val (.ref b210)] [] t
      refine XS.iloadN X263.here hx rfl (hb hby Kf) rfl ?_
      refine XS.bipush X263.here hx rfl (hb hby Lf) ?_
      refine XS.icmpYes X263.here hx rfl (pc0 := 72) (pc' := 83) rfl (hb hby Mf) rfl (flt (by decide : ¬ ((6 : Int32) < (6 : Int32)))).2.2.2 (by decide) (by decide) ?_
      refine XS.iloadN X263.here hx rfl (hb hby Pf) rfl ?_
      refine XS.bipush X263.here hx rfl (hb hby Rf) ?_
      refine XS.icmpYes X263.here hx rfl (pc0 := 86) (pc' := 97) rfl (hb hby Uf) rfl (flt (by decide : ¬ ((7 : Int32) < (6 : Int32)))).2.2.2 (by decide) (by decide) ?_
      refine XS.iloadN X263.here hx rfl (hb hby Vf) rfl ?_
      refine XS.bipush X263.here hx rfl (hb hby Wf) ?_
      show Va p e below m T263 100 #[.val (.ref q0), .val (.int 6), .val (.ref b210)] [(.int 8), (.int 6)] t
      refine XS.icmpYes X263.here hx rfl (pc0 := 100) (pc' := 111) rfl (hb hby Yd) rfl (flt (by decide : ¬ ((8 : Int32) < (6 : Int32)))).2.2.2 (by decide) (by decide) ?_
      refine st266 _ ?_
      refine XS.dup X266.here hx rfl (hb hby Ae) rfl rfl ?_
      refine XS.aloadN X266.here hx rfl (hb hby Be) rfl rfl ?_
      exact k
    have f269 := (V263.ext E266)
    have hp270 : ∀ c ∈ ([c0, c1, c2, c3, c4, c5] : List Int32), ¬ c < 0 ∧ ¬ (255 : Int32) < c := (by simp only [List.mem_cons, List.not_mem_nil, or_false, forall_eq_or_imp, forall_eq]; exact ⟨rc0, rc1, rc2, rc3, rc4, rc5⟩)
    obtain ⟨_, _, ⟨T271, L271, k271, n271⟩, -, X271, ⟨Lc271, hQ271, l271, y271, z271⟩, st271⟩ := X266.specialBack hx (y := Ml) rfl hown (mvT hZ (Da hw 54 rfl)) (mvT hZ (Da hw 55 rfl)) (mvT hZ (Da hw 56 rfl)) (by decide) (StrChars.Road.backV (W := 1) hZ (Hm hw) (kI := 4) (Da hw 8 rfl) (cs := ([c0, c1, c2, c3, c4, c5] : List Int32)) (bs := (([c0, c1, c2, c3, c4, c5] : List Int32)).map (fun c => c.toInt8.toInt32)) (n := 6) g_b266 (Nat.le_trans (Nat.le_of_eq O266.1.symm) O266.2.1) A266 F266_value F266_coder f269 (Bb.ext O266.2) Za rfl rfl (by decide) (by decide) hp270 rfl (by decide) (by decide)) (g := (mkF m 116 #[.val (.ref q0), .val (.int 6), .val (.ref b210)] [(.ref b210), (.ref b266), (.ref b266)])) rfl (by rw [hml]; rfl) (Steps.refl _) (a := b266) (argsL := [(.ref b210)]) (rest := [(.ref b266)]) (lenOf Dl rfl) rfl (by show 2 * 0 + _ ≤ _; exact Nat.le_of_eq rfl) (hb hby De) (fun _ _ => ⟨rfl, e266, (by decide : 2 + 1 ≤ _), (by decide : 10 + 6 ≤ _)⟩)
    dsimp only [Pt.U, Pt.locs, Pt.cells, Pt.slots] at X271 l271 y271 z271 st271 hQ271
    subst l271 y271 z271
    obtain ⟨rfl, N271q, Kc271, Ex271, Fc271, t271, kb271, g_t271, gs_t271, nx271, Fv271, Av271⟩ := hQ271
    have N271 := Fr.app N263 N271q
    have O271 := O266.keep Kc271 (allS g_b266 all0)
    have CR272 := CR267.trans (CHr.keep Kc271 (allS Sf266 all0) CR267.1)
    have K271 := K266.trans Kc271 (allS (Or.inr s_b266) all0)
    have s_t271 := Nat.le_trans K266.1 gs_t271
    have lt_t271 := Av271.lt
    have k273 : ∀ t, Va p e below m T271 119 #[.val (.ref q0), .val (.int 6), .val (.ref b210)] [(.ref b266)] t → Ab p e below m s₁ #[(.ref q0), (.int nq)] 3 t := by
      intro t k
      refine k268 t ?_
      refine st271.trans ?_
      exact k
    obtain ⟨fs, hr, hrun, hended, hRW⟩ := X271.leaveW hS (by exact (Nat.le_trans (Nat.le_trans (Nat.le_trans (Nat.le_trans (Nat.le_trans (Nat.le_trans (Nat.le_trans (Nat.le_trans (Nat.le_trans (Nat.zero_le _) E210.1) (Keep.of_wr W218).1) (Keep.of_wr W227).1) (Keep.of_wr W236).1) (Keep.of_wr W245).1) (Keep.of_wr W254).1) (Keep.of_wr W263).1) E266.1) Kc271.1)) (v := some (.ref b266)) (fun h => by rw [Bd.returns] at h; cases h)
    refine hNG ⟨_, _, k273 _ ?_, hrun, hended, _, _, rfl, ?_, by rw [hh]; show CHr Z Ub s.vm h0 T271.vm T271.heap; exact CR272.trans (CHv.at X271 hZ (Vd hw) CR272.1), hRW.1, hRW.2.1, hRW.2.2.1, hRW.2.2.2.mono (by decide) (by decide)⟩
    · exact retOut X271 hx (t := (.object "java/lang/String")) Bd.returns rfl (Or.inr (Or.inr (Or.inr (Or.inr ⟨rfl, rfl, rfl⟩)))) (hb hby Ge) hr
    · show Km Z q0 kq nq c0 c1 c2 c3 c4 c5 c6 c7 c8 Ra Ya Pa Wa Ma Ga Ka Ba Ua Ha La Ia h0 n0 _ T271.heap _
      exact ⟨b266, t271, kb271, (6 : Int32), ((([c0, c1, c2, c3, c4, c5] : List Int32)).map (fun c => c.toInt8.toInt32)).map Value.int, ([c0, c1, c2, c3, c4, c5] : List Int32), rfl, N271, O271, K271, g_b266, s_b266, Ex271, Fc271, Fv271, Av271, StrChars.Road.codOf (cs := ([c0, c1, c2, c3, c4, c5] : List Int32)) (n := 6) rfl (fun c hc => (hp270 c hc).2), hp270, (Nat.le_of_ble_eq_true rfl)⟩
  · have k274 : ∀ t, Va p e below m s₁ 0 #[.val (.ref q0), .val (.int 7), .unset] [] t → Ab p e below m s₁ #[(.ref q0), (.int nq)] 3 t := by
      intro t k
      refine k00 t ?_
      rw [hs10]
      exact k
    obtain ⟨T275, h275, c275, X275, e275, E275, A275, st275⟩ := newP X00 hx hZ (Da hw 1 rfl) e00 (g := (mkF m 1 #[.val (.ref q0), .val (.int 7), .unset] [(.int 7)])) rfl (hb hby Ag) rfl (by decide) (cap := 7) (by decide) (by decide) (by decide) (by decide)
    obtain ⟨b275, g275⟩ : ∃ z, z = h0.size := ⟨_, rfl⟩
    have Sf275 : Safe Z Ub _ h275 b275 := Safe.ext E275 CR0.1 (Safe.new (Nat.le_of_eq g275.symm))
    have CR276 := CR0.trans (CHr.ext E275 CR0.1)
    rw [← g275] at A275 st275
    have O275 := O0.ext E275
    have g_b275 : n0 ≤ b275 := Nat.le_trans (Nat.le_of_eq O0.1.symm) (Nat.le_trans O0.2.1 (Nat.le_of_eq g275.symm))
    have s_b275 : h0.size ≤ b275 := Nat.le_trans K00.1 (Nat.le_of_eq g275.symm)
    have K275 := K00.ext E275
    have V275 : Arv Z h275 b275 c275 .char (7 : Int32) [(.int 0), (.int 0), (.int 0), (.int 0), (.int 0), (.int 0), (.int 0)] (.int 0) := (Arv.new A275 (by decide)).pad (pad_rep [] (.int 0) 7)
    have lt_b275 := V275.lt
    have f277 := (P0.ext E275)
    obtain ⟨cl278, Ar278, q278, Sz278, Nn278, Hs278, Gf278⟩ := id f277
    have hin279 : ¬ ((0 : Int32) < 0 ∨ cl278.slots.size ≤ ((0 : Int32)).toNatClampNeg) := inb_of Sz278 ⟨by decide, by decide⟩
    have hat280 : cl278.slots[((0 : Int32)).toNatClampNeg]? = some (.int c0) := Hs278.at hin279 rfl
    obtain ⟨cl281, Ar281, q281, Sz281, Nn281, Hs281, Gf281⟩ := id V275
    have hin282 : ¬ ((0 : Int32) < 0 ∨ cl281.slots.size ≤ ((0 : Int32)).toNatClampNeg) := inb_of Sz281 ⟨by decide, by decide⟩
    obtain ⟨T283, h283, X283, e283, W283, st283⟩ := stC X275 hx hZ e275 Ar281 (j := (0 : Int32)) hin282 (g := (mkF m 13 #[.val (.ref q0), .val (.int 7), .val (.ref b275)] [(.int c0), (.int 0), (.ref b275)])) rfl rfl (hb hby Mg)
    have V283 : Arv Z h283 b275 c275 .char (7 : Int32) [(.int c0), (.int 0), (.int 0), (.int 0), (.int 0), (.int 0), (.int 0)] (.int 0) := by
      have q := Arv.set Ar281 q281 Sz281 Nn281 Hs281 Gf281 (fits_nar_char _) W283 0 rfl (Nat.le_of_ble_eq_true rfl)
      first | exact q | (simp only [Aa rc0, Aa rc1, Aa rc2, Aa rc3, Aa rc4, Aa rc5, Aa rc6, Aa rc7, Aa rc8] at q; exact q)
    have CR284 := CR276.trans (CHr.wr W283 Sf275 CR276.1)
    have N283 := Fr.snoc X283 N00 g_b275
    have O283 := O275.wr W283 g_b275
    have K283 := K275.wr W283 (Or.inr s_b275)
    have ne285 : ¬ (q0 = b275) := (Nat.ne_of_lt (Nat.lt_of_lt_of_le P0.lt (Nat.le_of_eq g275.symm)))
    have f286 := (f277.other W283 ne285)
    obtain ⟨cl287, Ar287, q287, Sz287, Nn287, Hs287, Gf287⟩ := id f286
    have hin288 : ¬ ((1 : Int32) < 0 ∨ cl287.slots.size ≤ ((1 : Int32)).toNatClampNeg) := inb_of Sz287 ⟨by decide, by decide⟩
    have hat289 : cl287.slots[((1 : Int32)).toNatClampNeg]? = some (.int c1) := Hs287.at hin288 rfl
    obtain ⟨cl290, Ar290, q290, Sz290, Nn290, Hs290, Gf290⟩ := id V283
    have hin291 : ¬ ((1 : Int32) < 0 ∨ cl290.slots.size ≤ ((1 : Int32)).toNatClampNeg) := inb_of Sz290 ⟨by decide, by decide⟩
    obtain ⟨T292, h292, X292, e292, W292, st292⟩ := stC X283 hx hZ e283 Ar290 (j := (1 : Int32)) hin291 (g := (mkF m 24 #[.val (.ref q0), .val (.int 7), .val (.ref b275)] [(.int c1), (.int 1), (.ref b275)])) rfl rfl (hb hby Dh)
    have V292 : Arv Z h292 b275 c275 .char (7 : Int32) [(.int c0), (.int c1), (.int 0), (.int 0), (.int 0), (.int 0), (.int 0)] (.int 0) := by
      have q := Arv.set Ar290 q290 Sz290 Nn290 Hs290 Gf290 (fits_nar_char _) W292 1 rfl (Nat.le_of_ble_eq_true rfl)
      first | exact q | (simp only [Aa rc0, Aa rc1, Aa rc2, Aa rc3, Aa rc4, Aa rc5, Aa rc6, Aa rc7, Aa rc8] at q; exact q)
    have sf294 := (Safe.wr W283 Sf275 CR276.1 Sf275)
    have CR293 := CR284.trans (CHr.wr W292 sf294 CR284.1)
    have N292 := Fr.snoc X292 N283 g_b275
    have O292 := O283.wr W292 g_b275
    have K292 := K283.wr W292 (Or.inr s_b275)
    have f295 := (f286.other W292 ne285)
    obtain ⟨cl296, Ar296, q296, Sz296, Nn296, Hs296, Gf296⟩ := id f295
    have hin297 : ¬ ((2 : Int32) < 0 ∨ cl296.slots.size ≤ ((2 : Int32)).toNatClampNeg) := inb_of Sz296 ⟨by decide, by decide⟩
    have hat298 : cl296.slots[((2 : Int32)).toNatClampNeg]? = some (.int c2) := Hs296.at hin297 rfl
    obtain ⟨cl299, Ar299, q299, Sz299, Nn299, Hs299, Gf299⟩ := id V292
    have hin300 : ¬ ((2 : Int32) < 0 ∨ cl299.slots.size ≤ ((2 : Int32)).toNatClampNeg) := inb_of Sz299 ⟨by decide, by decide⟩
    obtain ⟨T301, h301, X301, e301, W301, st301⟩ := stC X292 hx hZ e292 Ar299 (j := (2 : Int32)) hin300 (g := (mkF m 35 #[.val (.ref q0), .val (.int 7), .val (.ref b275)] [(.int c2), (.int 2), (.ref b275)])) rfl rfl (hb hby Yh)
    have V301 : Arv Z h301 b275 c275 .char (7 : Int32) [(.int c0), (.int c1), (.int c2), (.int 0), (.int 0), (.int 0), (.int 0)] (.int 0) := by
      have q := Arv.set Ar299 q299 Sz299 Nn299 Hs299 Gf299 (fits_nar_char _) W301 2 rfl (Nat.le_of_ble_eq_true rfl)
      first | exact q | (simp only [Aa rc0, Aa rc1, Aa rc2, Aa rc3, Aa rc4, Aa rc5, Aa rc6, Aa rc7, Aa rc8] at q; exact q)
    have sf303 := (Safe.wr W292 sf294 CR284.1 sf294)
    have CR302 := CR293.trans (CHr.wr W301 sf303 CR293.1)
    have N301 := Fr.snoc X301 N292 g_b275
    have O301 := O292.wr W301 g_b275
    have K301 := K292.wr W301 (Or.inr s_b275)
    have f304 := (f295.other W301 ne285)
    obtain ⟨cl305, Ar305, q305, Sz305, Nn305, Hs305, Gf305⟩ := id f304
    have hin306 : ¬ ((3 : Int32) < 0 ∨ cl305.slots.size ≤ ((3 : Int32)).toNatClampNeg) := inb_of Sz305 ⟨by decide, by decide⟩
    have hat307 : cl305.slots[((3 : Int32)).toNatClampNeg]? = some (.int c3) := Hs305.at hin306 rfl
    obtain ⟨cl308, Ar308, q308, Sz308, Nn308, Hs308, Gf308⟩ := id V301
    have hin309 : ¬ ((3 : Int32) < 0 ∨ cl308.slots.size ≤ ((3 : Int32)).toNatClampNeg) := inb_of Sz308 ⟨by decide, by decide⟩
    obtain ⟨T310, h310, X310, e310, W310, st310⟩ := stC X301 hx hZ e301 Ar308 (j := (3 : Int32)) hin309 (g := (mkF m 46 #[.val (.ref q0), .val (.int 7), .val (.ref b275)] [(.int c3), (.int 3), (.ref b275)])) rfl rfl (hb hby Yi)
    have V310 : Arv Z h310 b275 c275 .char (7 : Int32) [(.int c0), (.int c1), (.int c2), (.int c3), (.int 0), (.int 0), (.int 0)] (.int 0) := by
      have q := Arv.set Ar308 q308 Sz308 Nn308 Hs308 Gf308 (fits_nar_char _) W310 3 rfl (Nat.le_of_ble_eq_true rfl)
      first | exact q | (simp only [Aa rc0, Aa rc1, Aa rc2, Aa rc3, Aa rc4, Aa rc5, Aa rc6, Aa rc7, Aa rc8] at q; exact q)
    have sf312 := (Safe.wr W301 sf303 CR293.1 sf303)
    have CR311 := CR302.trans (CHr.wr W310 sf312 CR302.1)
    have N310 := Fr.snoc X310 N301 g_b275
    have O310 := O301.wr W310 g_b275
    have K310 := K301.wr W310 (Or.inr s_b275)
    have f313 := (f304.other W310 ne285)
    obtain ⟨cl314, Ar314, q314, Sz314, Nn314, Hs314, Gf314⟩ := id f313
    have hin315 : ¬ ((4 : Int32) < 0 ∨ cl314.slots.size ≤ ((4 : Int32)).toNatClampNeg) := inb_of Sz314 ⟨by decide, by decide⟩
    have hat316 : cl314.slots[((4 : Int32)).toNatClampNeg]? = some (.int c4) := Hs314.at hin315 rfl
    obtain ⟨cl317, Ar317, q317, Sz317, Nn317, Hs317, Gf317⟩ := id V310
    have hin318 : ¬ ((4 : Int32) < 0 ∨ cl317.slots.size ≤ ((4 : Int32)).toNatClampNeg) := inb_of Sz317 ⟨by decide, by decide⟩
    obtain ⟨T319, h319, X319, e319, W319, st319⟩ := stC X310 hx hZ e310 Ar317 (j := (4 : Int32)) hin318 (g := (mkF m 57 #[.val (.ref q0), .val (.int 7), .val (.ref b275)] [(.int c4), (.int 4), (.ref b275)])) rfl rfl (hb hby Rj)
    have V319 : Arv Z h319 b275 c275 .char (7 : Int32) [(.int c0), (.int c1), (.int c2), (.int c3), (.int c4), (.int 0), (.int 0)] (.int 0) := by
      have q := Arv.set Ar317 q317 Sz317 Nn317 Hs317 Gf317 (fits_nar_char _) W319 4 rfl (Nat.le_of_ble_eq_true rfl)
      first | exact q | (simp only [Aa rc0, Aa rc1, Aa rc2, Aa rc3, Aa rc4, Aa rc5, Aa rc6, Aa rc7, Aa rc8] at q; exact q)
    have sf321 := (Safe.wr W310 sf312 CR302.1 sf312)
    have CR320 := CR311.trans (CHr.wr W319 sf321 CR311.1)
    have N319 := Fr.snoc X319 N310 g_b275
    have O319 := O310.wr W319 g_b275
    have K319 := K310.wr W319 (Or.inr s_b275)
    have f322 := (f313.other W319 ne285)
    obtain ⟨cl323, Ar323, q323, Sz323, Nn323, Hs323, Gf323⟩ := id f322
    have hin324 : ¬ ((5 : Int32) < 0 ∨ cl323.slots.size ≤ ((5 : Int32)).toNatClampNeg) := inb_of Sz323 ⟨by decide, by decide⟩
    have hat325 : cl323.slots[((5 : Int32)).toNatClampNeg]? = some (.int c5) := Hs323.at hin324 rfl
    obtain ⟨cl326, Ar326, q326, Sz326, Nn326, Hs326, Gf326⟩ := id V319
    have hin327 : ¬ ((5 : Int32) < 0 ∨ cl326.slots.size ≤ ((5 : Int32)).toNatClampNeg) := inb_of Sz326 ⟨by decide, by decide⟩
    obtain ⟨T328, h328, X328, e328, W328, st328⟩ := stC X319 hx hZ e319 Ar326 (j := (5 : Int32)) hin327 (g := (mkF m 68 #[.val (.ref q0), .val (.int 7), .val (.ref b275)] [(.int c5), (.int 5), (.ref b275)])) rfl rfl (hb hby Zk)
    have V328 : Arv Z h328 b275 c275 .char (7 : Int32) [(.int c0), (.int c1), (.int c2), (.int c3), (.int c4), (.int c5), (.int 0)] (.int 0) := by
      have q := Arv.set Ar326 q326 Sz326 Nn326 Hs326 Gf326 (fits_nar_char _) W328 5 rfl (Nat.le_of_ble_eq_true rfl)
      first | exact q | (simp only [Aa rc0, Aa rc1, Aa rc2, Aa rc3, Aa rc4, Aa rc5, Aa rc6, Aa rc7, Aa rc8] at q; exact q)
    have sf330 := (Safe.wr W319 sf321 CR311.1 sf321)
    have CR329 := CR320.trans (CHr.wr W328 sf330 CR320.1)
    have N328 := Fr.snoc X328 N319 g_b275
    have O328 := O319.wr W328 g_b275
    have K328 := K319.wr W328 (Or.inr s_b275)
    have f331 := (f322.other W328 ne285)
    obtain ⟨cl332, Ar332, q332, Sz332, Nn332, Hs332, Gf332⟩ := id f331
    have hin333 : ¬ ((6 : Int32) < 0 ∨ cl332.slots.size ≤ ((6 : Int32)).toNatClampNeg) := inb_of Sz332 ⟨by decide, by decide⟩
    have hat334 : cl332.slots[((6 : Int32)).toNatClampNeg]? = some (.int c6) := Hs332.at hin333 rfl
    obtain ⟨cl335, Ar335, q335, Sz335, Nn335, Hs335, Gf335⟩ := id V328
    have hin336 : ¬ ((6 : Int32) < 0 ∨ cl335.slots.size ≤ ((6 : Int32)).toNatClampNeg) := inb_of Sz335 ⟨by decide, by decide⟩
    obtain ⟨T337, h337, X337, e337, W337, st337⟩ := stC X328 hx hZ e328 Ar335 (j := (6 : Int32)) hin336 (g := (mkF m 82 #[.val (.ref q0), .val (.int 7), .val (.ref b275)] [(.int c6), (.int 6), (.ref b275)])) rfl rfl (hb hby Dm)
    have V337 : Arv Z h337 b275 c275 .char (7 : Int32) [(.int c0), (.int c1), (.int c2), (.int c3), (.int c4), (.int c5), (.int c6)] (.int 0) := by
      have q := Arv.set Ar335 q335 Sz335 Nn335 Hs335 Gf335 (fits_nar_char _) W337 6 rfl (Nat.le_of_ble_eq_true rfl)
      first | exact q | (simp only [Aa rc0, Aa rc1, Aa rc2, Aa rc3, Aa rc4, Aa rc5, Aa rc6, Aa rc7, Aa rc8] at q; exact q)
    have sf339 := (Safe.wr W328 sf330 CR320.1 sf330)
    have CR338 := CR329.trans (CHr.wr W337 sf339 CR329.1)
    have N337 := Fr.snoc X337 N328 g_b275
    have O337 := O328.wr W337 g_b275
    have K337 := K328.wr W337 (Or.inr s_b275)
    obtain ⟨T340, h340, X340, e340, E340, A340, D340, -, st340⟩ := newO X337 hx hZ hown (Da hw 53 rfl) (Da hw 8 rfl) (Da hw 7 rfl) e337 (g := (mkF m 111 #[.val (.ref q0), .val (.int 7), .val (.ref b275)] [])) rfl (hb hby Zd) (by decide) (by decide)
    obtain ⟨b340, g340⟩ : ∃ z, z = h337.size := ⟨_, rfl⟩
    have Sf340 : Safe Z Ub _ h340 b340 := Safe.ext E340 CR338.1 (Safe.new (Nat.le_of_eq g340.symm))
    have CR341 := CR338.trans (CHr.ext E340 CR338.1)
    rw [← g340] at A340 D340 st340
    have O340 := O337.ext E340
    have g_b340 : n0 ≤ b340 := Nat.le_trans (Nat.le_of_eq O337.1.symm) (Nat.le_trans O337.2.1 (Nat.le_of_eq g340.symm))
    have s_b340 : h0.size ≤ b340 := Nat.le_trans K337.1 (Nat.le_of_eq g340.symm)
    have K340 := K337.ext E340
    have lt_b340 := A340.lt
    have F340_value : Fld Z h340 b340 "java/lang/String" "value" "[B" .null := D340 (Or.inr (Da hw 10 rfl)) (ty := (.array .byte)) (by decide)
    have F340_coder : Fld Z h340 b340 "java/lang/String" "coder" "B" (.int 0) := D340 (Or.inr (Da hw 11 rfl)) (ty := .byte) (by decide)
    have k342 : ∀ t, Va p e below m T340 116 #[.val (.ref q0), .val (.int 7), .val (.ref b275)] [(.ref b275), (.ref b340), (.ref b340)] t → Ab p e below m s₁ #[(.ref q0), (.int nq)] 3 t := by
      intro t k
      refine k274 t ?_
      refine XS.iloadN X00.here hx rfl (hb hby Zf) rfl ?_
      refine st275 _ ?_
      refine XS.astoreN X275.here hx rfl (hb hby Bg) rfl rfl (l' := #[.val (.ref q0), .val (.int 7), .val (.ref b275)]) rfl ?_
      refine XS.iloadN X275.here hx rfl (hb hby Dg) rfl ?_
      refine XS.ifNo X275.here hx rfl (hb hby Gg) rfl ((if0 _ _).trans (tlt (by decide : (0 : Int32) < (7 : Int32))).2.2.2) ?_
      refine XS.aloadN X275.here hx rfl (hb hby Ug) rfl rfl ?_
      refine XS.iconst X275.here hx rfl (hb hby Vg) ?_
      refine XS.aloadN X275.here hx rfl (hb hby Ig) rfl rfl ?_
      show Va p e below m T275 11 #[.val (.ref q0), .val (.int 7), .val (.ref b275)] [(.ref q0), (.int 0), (.ref b275)] t
      refine XS.iconst X275.here hx rfl (hb hby Kg) ?_
      refine X275.caload hx (j := (0 : Int32)) (v := (.int c0)) (by rw [e275]; exact Ar278.1) (State.isArrayOf_alike hZ.alike Ar278.2.1) Ar278.2.2 hin279 hat280 (g := (mkF m 12 #[.val (.ref q0), .val (.int 7), .val (.ref b275)] [(.int 0), (.ref q0), (.int 0), (.ref b275)])) rfl rfl (hb hby Lg) _ ?_
      refine st283 _ ?_
      refine XS.iloadN X283.here hx rfl (hb hby Ke) rfl ?_
      refine XS.iconst X283.here hx rfl (hb hby Le) ?_
      refine XS.icmpNo X283.here hx rfl (hb hby Me) rfl (tlt (by decide : (1 : Int32) < (7 : Int32))).2.2.2 ?_
      refine XS.aloadN X283.here hx rfl (hb hby Wg) rfl rfl ?_
      refine XS.iconst X283.here hx rfl (hb hby Yg) ?_
      show Va p e below m T283 21 #[.val (.ref q0), .val (.int 7), .val (.ref b275)] [(.int 1), (.ref b275)] t
      refine XS.aloadN X283.here hx rfl (hb hby Zg) rfl rfl ?_
      refine XS.iconst X283.here hx rfl (hb hby Ah) ?_
      refine X283.caload hx (j := (1 : Int32)) (v := (.int c1)) (by rw [e283]; exact Ar287.1) (State.isArrayOf_alike hZ.alike Ar287.2.1) Ar287.2.2 hin288 hat289 (g := (mkF m 23 #[.val (.ref q0), .val (.int 7), .val (.ref b275)] [(.int 1), (.ref q0), (.int 1), (.ref b275)])) rfl rfl (hb hby Bh) _ ?_
      refine st292 _ ?_
      refine XS.iloadN X292.here hx rfl (hb hby Pe) rfl ?_
      refine XS.iconst X292.here hx rfl (hb hby Re) ?_
      refine XS.icmpNo X292.here hx rfl (hb hby Ue) rfl (tlt (by decide : (2 : Int32) < (7 : Int32))).2.2.2 ?_
      refine XS.aloadN X292.here hx rfl (hb hby Ph) rfl rfl ?_
      show Va p e below m T292 31 #[.val (.ref q0), .val (.int 7), .val (.ref b275)] [(.ref b275)] t
      refine XS.iconst X292.here hx rfl (hb hby Rh) ?_
      refine XS.aloadN X292.here hx rfl (hb hby Uh) rfl rfl ?_
      refine XS.iconst X292.here hx rfl (hb hby Vh) ?_
      refine X292.caload hx (j := (2 : Int32)) (v := (.int c2)) (by rw [e292]; exact Ar296.1) (State.isArrayOf_alike hZ.alike Ar296.2.1) Ar296.2.2 hin297 hat298 (g := (mkF m 34 #[.val (.ref q0), .val (.int 7), .val (.ref b275)] [(.int 2), (.ref q0), (.int 2), (.ref b275)])) rfl rfl (hb hby Wh) _ ?_
      refine st301 _ ?_
      refine XS.iloadN X301.here hx rfl (hb hby Ve) rfl ?_
      refine XS.iconst X301.here hx rfl (hb hby We) ?_
      refine XS.icmpNo X301.here hx rfl (hb hby Ye) rfl (tlt (by decide : (3 : Int32) < (7 : Int32))).2.2.2 ?_
      show Va p e below m T301 41 #[.val (.ref q0), .val (.int 7), .val (.ref b275)] [] t
      refine XS.aloadN X301.here hx rfl (hb hby Pi) rfl rfl ?_
      refine XS.iconst X301.here hx rfl (hb hby Ri) ?_
      refine XS.aloadN X301.here hx rfl (hb hby Ui) rfl rfl ?_
      refine XS.iconst X301.here hx rfl (hb hby Vi) ?_
      refine X301.caload hx (j := (3 : Int32)) (v := (.int c3)) (by rw [e301]; exact Ar305.1) (State.isArrayOf_alike hZ.alike Ar305.2.1) Ar305.2.2 hin306 hat307 (g := (mkF m 45 #[.val (.ref q0), .val (.int 7), .val (.ref b275)] [(.int 3), (.ref q0), (.int 3), (.ref b275)])) rfl rfl (hb hby Wi) _ ?_
      refine st310 _ ?_
      refine XS.iloadN X310.here hx rfl (hb hby Ze) rfl ?_
      refine XS.iconst X310.here hx rfl (hb hby Af) ?_
      show Va p e below m T310 49 #[.val (.ref q0), .val (.int 7), .val (.ref b275)] [(.int 4), (.int 7)] t
      refine XS.icmpNo X310.here hx rfl (hb hby Bf) rfl (tlt (by decide : (4 : Int32) < (7 : Int32))).2.2.2 ?_
      refine XS.aloadN X310.here hx rfl (hb hby Ij) rfl rfl ?_
      refine XS.iconst X310.here hx rfl (hb hby Kj) ?_
      refine XS.aloadN X310.here hx rfl (hb hby Lj) rfl rfl ?_
      refine XS.iconst X310.here hx rfl (hb hby Mj) ?_
      refine X310.caload hx (j := (4 : Int32)) (v := (.int c4)) (by rw [e310]; exact Ar314.1) (State.isArrayOf_alike hZ.alike Ar314.2.1) Ar314.2.2 hin315 hat316 (g := (mkF m 56 #[.val (.ref q0), .val (.int 7), .val (.ref b275)] [(.int 4), (.ref q0), (.int 4), (.ref b275)])) rfl rfl (hb hby Pj) _ ?_
      refine st319 _ ?_
      refine XS.iloadN X319.here hx rfl (hb hby Df) rfl ?_
      show Va p e below m T319 59 #[.val (.ref q0), .val (.int 7), .val (.ref b275)] [(.int 7)] t
      refine XS.iconst X319.here hx rfl (hb hby Gf) ?_
      refine XS.icmpNo X319.here hx rfl (hb hby Hf) rfl (tlt (by decide : (5 : Int32) < (7 : Int32))).2.2.2 ?_
      refine XS.aloadN X319.here hx rfl (hb hby Rk) rfl rfl ?_
      refine XS.iconst X319.here hx rfl (hb hby Uk) ?_
      refine XS.aloadN X319.here hx rfl (hb hby Vk) rfl rfl ?_
      refine XS.iconst X319.here hx rfl (hb hby Wk) ?_
      refine X319.caload hx (j := (5 : Int32)) (v := (.int c5)) (by rw [e319]; exact Ar323.1) (State.isArrayOf_alike hZ.alike Ar323.2.1) Ar323.2.2 hin324 hat325 (g := (mkF m 67 #[.val (.ref q0), .val (.int 7), .val (.ref b275)] [(.int 5), (.ref q0), (.int 5), (.ref b275)])) rfl rfl (hb hby Yk) _ ?_
      refine st328 _ ?_
      show Va p e below m T328 69 #[.val (.ref q0), .val (.int 7), .val (.ref b275)] [] t
      refine XS.iloadN X328.here hx rfl (hb hby Kf) rfl ?_
      refine XS.bipush X328.here hx rfl (hb hby Lf) ?_
      refine XS.icmpNo X328.here hx rfl (hb hby Mf) rfl (tlt (by decide : (6 : Int32) < (7 : Int32))).2.2.2 ?_
      refine XS.aloadN X328.here hx rfl (hb hby Wl) rfl rfl ?_
      refine XS.bipush X328.here hx rfl (hb hby Yl) ?_
      refine XS.aloadN X328.here hx rfl (hb hby Zl) rfl rfl ?_
      refine XS.bipush X328.here hx rfl (hb hby Am) ?_
      refine X328.caload hx (j := (6 : Int32)) (v := (.int c6)) (by rw [e328]; exact Ar332.1) (State.isArrayOf_alike hZ.alike Ar332.2.1) Ar332.2.2 hin333 hat334 (g := (mkF m 81 #[.val (.ref q0), .val (.int 7), .val (.ref b275)] [(.int 6), (.ref q0), (.int 6), (.ref b275)])) rfl rfl (hb hby Bm) _ ?_
      show Va p e below m T328 82 #[.val (.ref q0), .val (.int 7), .val (.ref b275)] [(.int c6), (.int 6), (.ref b275)] t
      refine st337 _ ?_
      refine XS.iloadN X337.here hx rfl (hb hby Pf) rfl ?_
      refine XS.bipush X337.here hx rfl (hb hby Rf) ?_
      refine XS.icmpYes X337.here hx rfl (pc0 := 86) (pc' := 97) rfl (hb hby Uf) rfl (flt (by decide : ¬ ((7 : Int32) < (7 : Int32)))).2.2.2 (by decide) (by decide) ?_
      refine XS.iloadN X337.here hx rfl (hb hby Vf) rfl ?_
      refine XS.bipush X337.here hx rfl (hb hby Wf) ?_
      refine XS.icmpYes X337.here hx rfl (pc0 := 100) (pc' := 111) rfl (hb hby Yd) rfl (flt (by decide : ¬ ((8 : Int32) < (7 : Int32)))).2.2.2 (by decide) (by decide) ?_
      refine st340 _ ?_
      show Va p e below m T340 114 #[.val (.ref q0), .val (.int 7), .val (.ref b275)] [(.ref b340)] t
      refine XS.dup X340.here hx rfl (hb hby Ae) rfl rfl ?_
      refine XS.aloadN X340.here hx rfl (hb hby Be) rfl rfl ?_
      exact k
    have f343 := (V337.ext E340)
    have hp344 : ∀ c ∈ ([c0, c1, c2, c3, c4, c5, c6] : List Int32), ¬ c < 0 ∧ ¬ (255 : Int32) < c := (by simp only [List.mem_cons, List.not_mem_nil, or_false, forall_eq_or_imp, forall_eq]; exact ⟨rc0, rc1, rc2, rc3, rc4, rc5, rc6⟩)
    obtain ⟨_, _, ⟨T345, L345, k345, n345⟩, -, X345, ⟨Lc345, hQ345, l345, y345, z345⟩, st345⟩ := X340.specialBack hx (y := Ml) rfl hown (mvT hZ (Da hw 54 rfl)) (mvT hZ (Da hw 55 rfl)) (mvT hZ (Da hw 56 rfl)) (by decide) (StrChars.Road.backV (W := 1) hZ (Hm hw) (kI := 4) (Da hw 8 rfl) (cs := ([c0, c1, c2, c3, c4, c5, c6] : List Int32)) (bs := (([c0, c1, c2, c3, c4, c5, c6] : List Int32)).map (fun c => c.toInt8.toInt32)) (n := 7) g_b340 (Nat.le_trans (Nat.le_of_eq O340.1.symm) O340.2.1) A340 F340_value F340_coder f343 (Bb.ext O340.2) Za rfl rfl (by decide) (by decide) hp344 rfl (by decide) (by decide)) (g := (mkF m 116 #[.val (.ref q0), .val (.int 7), .val (.ref b275)] [(.ref b275), (.ref b340), (.ref b340)])) rfl (by rw [hml]; rfl) (Steps.refl _) (a := b340) (argsL := [(.ref b275)]) (rest := [(.ref b340)]) (lenOf Dl rfl) rfl (by show 2 * 0 + _ ≤ _; exact Nat.le_of_eq rfl) (hb hby De) (fun _ _ => ⟨rfl, e340, (by decide : 2 + 1 ≤ _), (by decide : 11 + 7 ≤ _)⟩)
    dsimp only [Pt.U, Pt.locs, Pt.cells, Pt.slots] at X345 l345 y345 z345 st345 hQ345
    subst l345 y345 z345
    obtain ⟨rfl, N345q, Kc345, Ex345, Fc345, t345, kb345, g_t345, gs_t345, nx345, Fv345, Av345⟩ := hQ345
    have N345 := Fr.app N337 N345q
    have O345 := O340.keep Kc345 (allS g_b340 all0)
    have CR346 := CR341.trans (CHr.keep Kc345 (allS Sf340 all0) CR341.1)
    have K345 := K340.trans Kc345 (allS (Or.inr s_b340) all0)
    have s_t345 := Nat.le_trans K340.1 gs_t345
    have lt_t345 := Av345.lt
    have k347 : ∀ t, Va p e below m T345 119 #[.val (.ref q0), .val (.int 7), .val (.ref b275)] [(.ref b340)] t → Ab p e below m s₁ #[(.ref q0), (.int nq)] 3 t := by
      intro t k
      refine k342 t ?_
      refine st345.trans ?_
      exact k
    obtain ⟨fs, hr, hrun, hended, hRW⟩ := X345.leaveW hS (by exact (Nat.le_trans (Nat.le_trans (Nat.le_trans (Nat.le_trans (Nat.le_trans (Nat.le_trans (Nat.le_trans (Nat.le_trans (Nat.le_trans (Nat.le_trans (Nat.zero_le _) E275.1) (Keep.of_wr W283).1) (Keep.of_wr W292).1) (Keep.of_wr W301).1) (Keep.of_wr W310).1) (Keep.of_wr W319).1) (Keep.of_wr W328).1) (Keep.of_wr W337).1) E340.1) Kc345.1)) (v := some (.ref b340)) (fun h => by rw [Bd.returns] at h; cases h)
    refine hNG ⟨_, _, k347 _ ?_, hrun, hended, _, _, rfl, ?_, by rw [hh]; show CHr Z Ub s.vm h0 T345.vm T345.heap; exact CR346.trans (CHv.at X345 hZ (Vd hw) CR346.1), hRW.1, hRW.2.1, hRW.2.2.1, hRW.2.2.2.mono (by decide) (by decide)⟩
    · exact retOut X345 hx (t := (.object "java/lang/String")) Bd.returns rfl (Or.inr (Or.inr (Or.inr (Or.inr ⟨rfl, rfl, rfl⟩)))) (hb hby Ge) hr
    · show Km Z q0 kq nq c0 c1 c2 c3 c4 c5 c6 c7 c8 Ra Ya Pa Wa Ma Ga Ka Ba Ua Ha La Ia h0 n0 _ T345.heap _
      exact ⟨b340, t345, kb345, (7 : Int32), ((([c0, c1, c2, c3, c4, c5, c6] : List Int32)).map (fun c => c.toInt8.toInt32)).map Value.int, ([c0, c1, c2, c3, c4, c5, c6] : List Int32), rfl, N345, O345, K345, g_b340, s_b340, Ex345, Fc345, Fv345, Av345, StrChars.Road.codOf (cs := ([c0, c1, c2, c3, c4, c5, c6] : List Int32)) (n := 7) rfl (fun c hc => (hp344 c hc).2), hp344, (Nat.le_of_ble_eq_true rfl)⟩
  · have k348 : ∀ t, Va p e below m s₁ 0 #[.val (.ref q0), .val (.int 8), .unset] [] t → Ab p e below m s₁ #[(.ref q0), (.int nq)] 3 t := by
      intro t k
      refine k00 t ?_
      rw [hs10]
      exact k
    obtain ⟨T349, h349, c349, X349, e349, E349, A349, st349⟩ := newP X00 hx hZ (Da hw 1 rfl) e00 (g := (mkF m 1 #[.val (.ref q0), .val (.int 8), .unset] [(.int 8)])) rfl (hb hby Ag) rfl (by decide) (cap := 8) (by decide) (by decide) (by decide) (by decide)
    obtain ⟨b349, g349⟩ : ∃ z, z = h0.size := ⟨_, rfl⟩
    have Sf349 : Safe Z Ub _ h349 b349 := Safe.ext E349 CR0.1 (Safe.new (Nat.le_of_eq g349.symm))
    have CR350 := CR0.trans (CHr.ext E349 CR0.1)
    rw [← g349] at A349 st349
    have O349 := O0.ext E349
    have g_b349 : n0 ≤ b349 := Nat.le_trans (Nat.le_of_eq O0.1.symm) (Nat.le_trans O0.2.1 (Nat.le_of_eq g349.symm))
    have s_b349 : h0.size ≤ b349 := Nat.le_trans K00.1 (Nat.le_of_eq g349.symm)
    have K349 := K00.ext E349
    have V349 : Arv Z h349 b349 c349 .char (8 : Int32) [(.int 0), (.int 0), (.int 0), (.int 0), (.int 0), (.int 0), (.int 0), (.int 0)] (.int 0) := (Arv.new A349 (by decide)).pad (pad_rep [] (.int 0) 8)
    have lt_b349 := V349.lt
    have f351 := (P0.ext E349)
    obtain ⟨cl352, Ar352, q352, Sz352, Nn352, Hs352, Gf352⟩ := id f351
    have hin353 : ¬ ((0 : Int32) < 0 ∨ cl352.slots.size ≤ ((0 : Int32)).toNatClampNeg) := inb_of Sz352 ⟨by decide, by decide⟩
    have hat354 : cl352.slots[((0 : Int32)).toNatClampNeg]? = some (.int c0) := Hs352.at hin353 rfl
    obtain ⟨cl355, Ar355, q355, Sz355, Nn355, Hs355, Gf355⟩ := id V349
    have hin356 : ¬ ((0 : Int32) < 0 ∨ cl355.slots.size ≤ ((0 : Int32)).toNatClampNeg) := inb_of Sz355 ⟨by decide, by decide⟩
    obtain ⟨T357, h357, X357, e357, W357, st357⟩ := stC X349 hx hZ e349 Ar355 (j := (0 : Int32)) hin356 (g := (mkF m 13 #[.val (.ref q0), .val (.int 8), .val (.ref b349)] [(.int c0), (.int 0), (.ref b349)])) rfl rfl (hb hby Mg)
    have V357 : Arv Z h357 b349 c349 .char (8 : Int32) [(.int c0), (.int 0), (.int 0), (.int 0), (.int 0), (.int 0), (.int 0), (.int 0)] (.int 0) := by
      have q := Arv.set Ar355 q355 Sz355 Nn355 Hs355 Gf355 (fits_nar_char _) W357 0 rfl (Nat.le_of_ble_eq_true rfl)
      first | exact q | (simp only [Aa rc0, Aa rc1, Aa rc2, Aa rc3, Aa rc4, Aa rc5, Aa rc6, Aa rc7, Aa rc8] at q; exact q)
    have CR358 := CR350.trans (CHr.wr W357 Sf349 CR350.1)
    have N357 := Fr.snoc X357 N00 g_b349
    have O357 := O349.wr W357 g_b349
    have K357 := K349.wr W357 (Or.inr s_b349)
    have ne359 : ¬ (q0 = b349) := (Nat.ne_of_lt (Nat.lt_of_lt_of_le P0.lt (Nat.le_of_eq g349.symm)))
    have f360 := (f351.other W357 ne359)
    obtain ⟨cl361, Ar361, q361, Sz361, Nn361, Hs361, Gf361⟩ := id f360
    have hin362 : ¬ ((1 : Int32) < 0 ∨ cl361.slots.size ≤ ((1 : Int32)).toNatClampNeg) := inb_of Sz361 ⟨by decide, by decide⟩
    have hat363 : cl361.slots[((1 : Int32)).toNatClampNeg]? = some (.int c1) := Hs361.at hin362 rfl
    obtain ⟨cl364, Ar364, q364, Sz364, Nn364, Hs364, Gf364⟩ := id V357
    have hin365 : ¬ ((1 : Int32) < 0 ∨ cl364.slots.size ≤ ((1 : Int32)).toNatClampNeg) := inb_of Sz364 ⟨by decide, by decide⟩
    obtain ⟨T366, h366, X366, e366, W366, st366⟩ := stC X357 hx hZ e357 Ar364 (j := (1 : Int32)) hin365 (g := (mkF m 24 #[.val (.ref q0), .val (.int 8), .val (.ref b349)] [(.int c1), (.int 1), (.ref b349)])) rfl rfl (hb hby Dh)
    have V366 : Arv Z h366 b349 c349 .char (8 : Int32) [(.int c0), (.int c1), (.int 0), (.int 0), (.int 0), (.int 0), (.int 0), (.int 0)] (.int 0) := by
      have q := Arv.set Ar364 q364 Sz364 Nn364 Hs364 Gf364 (fits_nar_char _) W366 1 rfl (Nat.le_of_ble_eq_true rfl)
      first | exact q | (simp only [Aa rc0, Aa rc1, Aa rc2, Aa rc3, Aa rc4, Aa rc5, Aa rc6, Aa rc7, Aa rc8] at q; exact q)
    have sf368 := (Safe.wr W357 Sf349 CR350.1 Sf349)
    have CR367 := CR358.trans (CHr.wr W366 sf368 CR358.1)
    have N366 := Fr.snoc X366 N357 g_b349
    have O366 := O357.wr W366 g_b349
    have K366 := K357.wr W366 (Or.inr s_b349)
    have f369 := (f360.other W366 ne359)
    obtain ⟨cl370, Ar370, q370, Sz370, Nn370, Hs370, Gf370⟩ := id f369
    have hin371 : ¬ ((2 : Int32) < 0 ∨ cl370.slots.size ≤ ((2 : Int32)).toNatClampNeg) := inb_of Sz370 ⟨by decide, by decide⟩
    have hat372 : cl370.slots[((2 : Int32)).toNatClampNeg]? = some (.int c2) := Hs370.at hin371 rfl
    obtain ⟨cl373, Ar373, q373, Sz373, Nn373, Hs373, Gf373⟩ := id V366
    have hin374 : ¬ ((2 : Int32) < 0 ∨ cl373.slots.size ≤ ((2 : Int32)).toNatClampNeg) := inb_of Sz373 ⟨by decide, by decide⟩
    obtain ⟨T375, h375, X375, e375, W375, st375⟩ := stC X366 hx hZ e366 Ar373 (j := (2 : Int32)) hin374 (g := (mkF m 35 #[.val (.ref q0), .val (.int 8), .val (.ref b349)] [(.int c2), (.int 2), (.ref b349)])) rfl rfl (hb hby Yh)
    have V375 : Arv Z h375 b349 c349 .char (8 : Int32) [(.int c0), (.int c1), (.int c2), (.int 0), (.int 0), (.int 0), (.int 0), (.int 0)] (.int 0) := by
      have q := Arv.set Ar373 q373 Sz373 Nn373 Hs373 Gf373 (fits_nar_char _) W375 2 rfl (Nat.le_of_ble_eq_true rfl)
      first | exact q | (simp only [Aa rc0, Aa rc1, Aa rc2, Aa rc3, Aa rc4, Aa rc5, Aa rc6, Aa rc7, Aa rc8] at q; exact q)
    have sf377 := (Safe.wr W366 sf368 CR358.1 sf368)
    have CR376 := CR367.trans (CHr.wr W375 sf377 CR367.1)
    have N375 := Fr.snoc X375 N366 g_b349
    have O375 := O366.wr W375 g_b349
    have K375 := K366.wr W375 (Or.inr s_b349)
    have f378 := (f369.other W375 ne359)
    obtain ⟨cl379, Ar379, q379, Sz379, Nn379, Hs379, Gf379⟩ := id f378
    have hin380 : ¬ ((3 : Int32) < 0 ∨ cl379.slots.size ≤ ((3 : Int32)).toNatClampNeg) := inb_of Sz379 ⟨by decide, by decide⟩
    have hat381 : cl379.slots[((3 : Int32)).toNatClampNeg]? = some (.int c3) := Hs379.at hin380 rfl
    obtain ⟨cl382, Ar382, q382, Sz382, Nn382, Hs382, Gf382⟩ := id V375
    have hin383 : ¬ ((3 : Int32) < 0 ∨ cl382.slots.size ≤ ((3 : Int32)).toNatClampNeg) := inb_of Sz382 ⟨by decide, by decide⟩
    obtain ⟨T384, h384, X384, e384, W384, st384⟩ := stC X375 hx hZ e375 Ar382 (j := (3 : Int32)) hin383 (g := (mkF m 46 #[.val (.ref q0), .val (.int 8), .val (.ref b349)] [(.int c3), (.int 3), (.ref b349)])) rfl rfl (hb hby Yi)
    have V384 : Arv Z h384 b349 c349 .char (8 : Int32) [(.int c0), (.int c1), (.int c2), (.int c3), (.int 0), (.int 0), (.int 0), (.int 0)] (.int 0) := by
      have q := Arv.set Ar382 q382 Sz382 Nn382 Hs382 Gf382 (fits_nar_char _) W384 3 rfl (Nat.le_of_ble_eq_true rfl)
      first | exact q | (simp only [Aa rc0, Aa rc1, Aa rc2, Aa rc3, Aa rc4, Aa rc5, Aa rc6, Aa rc7, Aa rc8] at q; exact q)
    have sf386 := (Safe.wr W375 sf377 CR367.1 sf377)
    have CR385 := CR376.trans (CHr.wr W384 sf386 CR376.1)
    have N384 := Fr.snoc X384 N375 g_b349
    have O384 := O375.wr W384 g_b349
    have K384 := K375.wr W384 (Or.inr s_b349)
    have f387 := (f378.other W384 ne359)
    obtain ⟨cl388, Ar388, q388, Sz388, Nn388, Hs388, Gf388⟩ := id f387
    have hin389 : ¬ ((4 : Int32) < 0 ∨ cl388.slots.size ≤ ((4 : Int32)).toNatClampNeg) := inb_of Sz388 ⟨by decide, by decide⟩
    have hat390 : cl388.slots[((4 : Int32)).toNatClampNeg]? = some (.int c4) := Hs388.at hin389 rfl
    obtain ⟨cl391, Ar391, q391, Sz391, Nn391, Hs391, Gf391⟩ := id V384
    have hin392 : ¬ ((4 : Int32) < 0 ∨ cl391.slots.size ≤ ((4 : Int32)).toNatClampNeg) := inb_of Sz391 ⟨by decide, by decide⟩
    obtain ⟨T393, h393, X393, e393, W393, st393⟩ := stC X384 hx hZ e384 Ar391 (j := (4 : Int32)) hin392 (g := (mkF m 57 #[.val (.ref q0), .val (.int 8), .val (.ref b349)] [(.int c4), (.int 4), (.ref b349)])) rfl rfl (hb hby Rj)
    have V393 : Arv Z h393 b349 c349 .char (8 : Int32) [(.int c0), (.int c1), (.int c2), (.int c3), (.int c4), (.int 0), (.int 0), (.int 0)] (.int 0) := by
      have q := Arv.set Ar391 q391 Sz391 Nn391 Hs391 Gf391 (fits_nar_char _) W393 4 rfl (Nat.le_of_ble_eq_true rfl)
      first | exact q | (simp only [Aa rc0, Aa rc1, Aa rc2, Aa rc3, Aa rc4, Aa rc5, Aa rc6, Aa rc7, Aa rc8] at q; exact q)
    have sf395 := (Safe.wr W384 sf386 CR376.1 sf386)
    have CR394 := CR385.trans (CHr.wr W393 sf395 CR385.1)
    have N393 := Fr.snoc X393 N384 g_b349
    have O393 := O384.wr W393 g_b349
    have K393 := K384.wr W393 (Or.inr s_b349)
    have f396 := (f387.other W393 ne359)
    obtain ⟨cl397, Ar397, q397, Sz397, Nn397, Hs397, Gf397⟩ := id f396
    have hin398 : ¬ ((5 : Int32) < 0 ∨ cl397.slots.size ≤ ((5 : Int32)).toNatClampNeg) := inb_of Sz397 ⟨by decide, by decide⟩
    have hat399 : cl397.slots[((5 : Int32)).toNatClampNeg]? = some (.int c5) := Hs397.at hin398 rfl
    obtain ⟨cl400, Ar400, q400, Sz400, Nn400, Hs400, Gf400⟩ := id V393
    have hin401 : ¬ ((5 : Int32) < 0 ∨ cl400.slots.size ≤ ((5 : Int32)).toNatClampNeg) := inb_of Sz400 ⟨by decide, by decide⟩
    obtain ⟨T402, h402, X402, e402, W402, st402⟩ := stC X393 hx hZ e393 Ar400 (j := (5 : Int32)) hin401 (g := (mkF m 68 #[.val (.ref q0), .val (.int 8), .val (.ref b349)] [(.int c5), (.int 5), (.ref b349)])) rfl rfl (hb hby Zk)
    have V402 : Arv Z h402 b349 c349 .char (8 : Int32) [(.int c0), (.int c1), (.int c2), (.int c3), (.int c4), (.int c5), (.int 0), (.int 0)] (.int 0) := by
      have q := Arv.set Ar400 q400 Sz400 Nn400 Hs400 Gf400 (fits_nar_char _) W402 5 rfl (Nat.le_of_ble_eq_true rfl)
      first | exact q | (simp only [Aa rc0, Aa rc1, Aa rc2, Aa rc3, Aa rc4, Aa rc5, Aa rc6, Aa rc7, Aa rc8] at q; exact q)
    have sf404 := (Safe.wr W393 sf395 CR385.1 sf395)
    have CR403 := CR394.trans (CHr.wr W402 sf404 CR394.1)
    have N402 := Fr.snoc X402 N393 g_b349
    have O402 := O393.wr W402 g_b349
    have K402 := K393.wr W402 (Or.inr s_b349)
    have f405 := (f396.other W402 ne359)
    obtain ⟨cl406, Ar406, q406, Sz406, Nn406, Hs406, Gf406⟩ := id f405
    have hin407 : ¬ ((6 : Int32) < 0 ∨ cl406.slots.size ≤ ((6 : Int32)).toNatClampNeg) := inb_of Sz406 ⟨by decide, by decide⟩
    have hat408 : cl406.slots[((6 : Int32)).toNatClampNeg]? = some (.int c6) := Hs406.at hin407 rfl
    obtain ⟨cl409, Ar409, q409, Sz409, Nn409, Hs409, Gf409⟩ := id V402
    have hin410 : ¬ ((6 : Int32) < 0 ∨ cl409.slots.size ≤ ((6 : Int32)).toNatClampNeg) := inb_of Sz409 ⟨by decide, by decide⟩
    obtain ⟨T411, h411, X411, e411, W411, st411⟩ := stC X402 hx hZ e402 Ar409 (j := (6 : Int32)) hin410 (g := (mkF m 82 #[.val (.ref q0), .val (.int 8), .val (.ref b349)] [(.int c6), (.int 6), (.ref b349)])) rfl rfl (hb hby Dm)
    have V411 : Arv Z h411 b349 c349 .char (8 : Int32) [(.int c0), (.int c1), (.int c2), (.int c3), (.int c4), (.int c5), (.int c6), (.int 0)] (.int 0) := by
      have q := Arv.set Ar409 q409 Sz409 Nn409 Hs409 Gf409 (fits_nar_char _) W411 6 rfl (Nat.le_of_ble_eq_true rfl)
      first | exact q | (simp only [Aa rc0, Aa rc1, Aa rc2, Aa rc3, Aa rc4, Aa rc5, Aa rc6, Aa rc7, Aa rc8] at q; exact q)
    have sf413 := (Safe.wr W402 sf404 CR394.1 sf404)
    have CR412 := CR403.trans (CHr.wr W411 sf413 CR403.1)
    have N411 := Fr.snoc X411 N402 g_b349
    have O411 := O402.wr W411 g_b349
    have K411 := K402.wr W411 (Or.inr s_b349)
    have f414 := (f405.other W411 ne359)
    obtain ⟨cl415, Ar415, q415, Sz415, Nn415, Hs415, Gf415⟩ := id f414
    have hin416 : ¬ ((7 : Int32) < 0 ∨ cl415.slots.size ≤ ((7 : Int32)).toNatClampNeg) := inb_of Sz415 ⟨by decide, by decide⟩
    have hat417 : cl415.slots[((7 : Int32)).toNatClampNeg]? = some (.int c7) := Hs415.at hin416 rfl
    obtain ⟨cl418, Ar418, q418, Sz418, Nn418, Hs418, Gf418⟩ := id V411
    have hin419 : ¬ ((7 : Int32) < 0 ∨ cl418.slots.size ≤ ((7 : Int32)).toNatClampNeg) := inb_of Sz418 ⟨by decide, by decide⟩
    obtain ⟨T420, h420, X420, e420, W420, st420⟩ := stC X411 hx hZ e411 Ar418 (j := (7 : Int32)) hin419 (g := (mkF m 96 #[.val (.ref q0), .val (.int 8), .val (.ref b349)] [(.int c7), (.int 7), (.ref b349)])) rfl rfl (hb hby Wn)
    have V420 : Arv Z h420 b349 c349 .char (8 : Int32) [(.int c0), (.int c1), (.int c2), (.int c3), (.int c4), (.int c5), (.int c6), (.int c7)] (.int 0) := by
      have q := Arv.set Ar418 q418 Sz418 Nn418 Hs418 Gf418 (fits_nar_char _) W420 7 rfl (Nat.le_of_ble_eq_true rfl)
      first | exact q | (simp only [Aa rc0, Aa rc1, Aa rc2, Aa rc3, Aa rc4, Aa rc5, Aa rc6, Aa rc7, Aa rc8] at q; exact q)
    have sf422 := (Safe.wr W411 sf413 CR403.1 sf413)
    have CR421 := CR412.trans (CHr.wr W420 sf422 CR412.1)
    have N420 := Fr.snoc X420 N411 g_b349
    have O420 := O411.wr W420 g_b349
    have K420 := K411.wr W420 (Or.inr s_b349)
    obtain ⟨T423, h423, X423, e423, E423, A423, D423, -, st423⟩ := newO X420 hx hZ hown (Da hw 53 rfl) (Da hw 8 rfl) (Da hw 7 rfl) e420 (g := (mkF m 111 #[.val (.ref q0), .val (.int 8), .val (.ref b349)] [])) rfl (hb hby Zd) (by decide) (by decide)
    obtain ⟨b423, g423⟩ : ∃ z, z = h420.size := ⟨_, rfl⟩
    have Sf423 : Safe Z Ub _ h423 b423 := Safe.ext E423 CR421.1 (Safe.new (Nat.le_of_eq g423.symm))
    have CR424 := CR421.trans (CHr.ext E423 CR421.1)
    rw [← g423] at A423 D423 st423
    have O423 := O420.ext E423
    have g_b423 : n0 ≤ b423 := Nat.le_trans (Nat.le_of_eq O420.1.symm) (Nat.le_trans O420.2.1 (Nat.le_of_eq g423.symm))
    have s_b423 : h0.size ≤ b423 := Nat.le_trans K420.1 (Nat.le_of_eq g423.symm)
    have K423 := K420.ext E423
    have lt_b423 := A423.lt
    have F423_value : Fld Z h423 b423 "java/lang/String" "value" "[B" .null := D423 (Or.inr (Da hw 10 rfl)) (ty := (.array .byte)) (by decide)
    have F423_coder : Fld Z h423 b423 "java/lang/String" "coder" "B" (.int 0) := D423 (Or.inr (Da hw 11 rfl)) (ty := .byte) (by decide)
    have k425 : ∀ t, Va p e below m T423 116 #[.val (.ref q0), .val (.int 8), .val (.ref b349)] [(.ref b349), (.ref b423), (.ref b423)] t → Ab p e below m s₁ #[(.ref q0), (.int nq)] 3 t := by
      intro t k
      refine k348 t ?_
      refine XS.iloadN X00.here hx rfl (hb hby Zf) rfl ?_
      refine st349 _ ?_
      refine XS.astoreN X349.here hx rfl (hb hby Bg) rfl rfl (l' := #[.val (.ref q0), .val (.int 8), .val (.ref b349)]) rfl ?_
      refine XS.iloadN X349.here hx rfl (hb hby Dg) rfl ?_
      refine XS.ifNo X349.here hx rfl (hb hby Gg) rfl ((if0 _ _).trans (tlt (by decide : (0 : Int32) < (8 : Int32))).2.2.2) ?_
      refine XS.aloadN X349.here hx rfl (hb hby Ug) rfl rfl ?_
      refine XS.iconst X349.here hx rfl (hb hby Vg) ?_
      refine XS.aloadN X349.here hx rfl (hb hby Ig) rfl rfl ?_
      show Va p e below m T349 11 #[.val (.ref q0), .val (.int 8), .val (.ref b349)] [(.ref q0), (.int 0), (.ref b349)] t
      refine XS.iconst X349.here hx rfl (hb hby Kg) ?_
      refine X349.caload hx (j := (0 : Int32)) (v := (.int c0)) (by rw [e349]; exact Ar352.1) (State.isArrayOf_alike hZ.alike Ar352.2.1) Ar352.2.2 hin353 hat354 (g := (mkF m 12 #[.val (.ref q0), .val (.int 8), .val (.ref b349)] [(.int 0), (.ref q0), (.int 0), (.ref b349)])) rfl rfl (hb hby Lg) _ ?_
      refine st357 _ ?_
      refine XS.iloadN X357.here hx rfl (hb hby Ke) rfl ?_
      refine XS.iconst X357.here hx rfl (hb hby Le) ?_
      refine XS.icmpNo X357.here hx rfl (hb hby Me) rfl (tlt (by decide : (1 : Int32) < (8 : Int32))).2.2.2 ?_
      refine XS.aloadN X357.here hx rfl (hb hby Wg) rfl rfl ?_
      refine XS.iconst X357.here hx rfl (hb hby Yg) ?_
      show Va p e below m T357 21 #[.val (.ref q0), .val (.int 8), .val (.ref b349)] [(.int 1), (.ref b349)] t
      refine XS.aloadN X357.here hx rfl (hb hby Zg) rfl rfl ?_
      refine XS.iconst X357.here hx rfl (hb hby Ah) ?_
      refine X357.caload hx (j := (1 : Int32)) (v := (.int c1)) (by rw [e357]; exact Ar361.1) (State.isArrayOf_alike hZ.alike Ar361.2.1) Ar361.2.2 hin362 hat363 (g := (mkF m 23 #[.val (.ref q0), .val (.int 8), .val (.ref b349)] [(.int 1), (.ref q0), (.int 1), (.ref b349)])) rfl rfl (hb hby Bh) _ ?_
      refine st366 _ ?_
      refine XS.iloadN X366.here hx rfl (hb hby Pe) rfl ?_
      refine XS.iconst X366.here hx rfl (hb hby Re) ?_
      refine XS.icmpNo X366.here hx rfl (hb hby Ue) rfl (tlt (by decide : (2 : Int32) < (8 : Int32))).2.2.2 ?_
      refine XS.aloadN X366.here hx rfl (hb hby Ph) rfl rfl ?_
      show Va p e below m T366 31 #[.val (.ref q0), .val (.int 8), .val (.ref b349)] [(.ref b349)] t
      refine XS.iconst X366.here hx rfl (hb hby Rh) ?_
      refine XS.aloadN X366.here hx rfl (hb hby Uh) rfl rfl ?_
      refine XS.iconst X366.here hx rfl (hb hby Vh) ?_
      refine X366.caload hx (j := (2 : Int32)) (v := (.int c2)) (by rw [e366]; exact Ar370.1) (State.isArrayOf_alike hZ.alike Ar370.2.1) Ar370.2.2 hin371 hat372 (g := (mkF m 34 #[.val (.ref q0), .val (.int 8), .val (.ref b349)] [(.int 2), (.ref q0), (.int 2), (.ref b349)])) rfl rfl (hb hby Wh) _ ?_
      refine st375 _ ?_
      refine XS.iloadN X375.here hx rfl (hb hby Ve) rfl ?_
      refine XS.iconst X375.here hx rfl (hb hby We) ?_
      refine XS.icmpNo X375.here hx rfl (hb hby Ye) rfl (tlt (by decide : (3 : Int32) < (8 : Int32))).2.2.2 ?_
      show Va p e below m T375 41 #[.val (.ref q0), .val (.int 8), .val (.ref b349)] [] t
      refine XS.aloadN X375.here hx rfl (hb hby Pi) rfl rfl ?_
      refine XS.iconst X375.here hx rfl (hb hby Ri) ?_
      refine XS.aloadN X375.here hx rfl (hb hby Ui) rfl rfl ?_
      refine XS.iconst X375.here hx rfl (hb hby Vi) ?_
      refine X375.caload hx (j := (3 : Int32)) (v := (.int c3)) (by rw [e375]; exact Ar379.1) (State.isArrayOf_alike hZ.alike Ar379.2.1) Ar379.2.2 hin380 hat381 (g := (mkF m 45 #[.val (.ref q0), .val (.int 8), .val (.ref b349)] [(.int 3), (.ref q0), (.int 3), (.ref b349)])) rfl rfl (hb hby Wi) _ ?_
      refine st384 _ ?_
      refine XS.iloadN X384.here hx rfl (hb hby Ze) rfl ?_
      refine XS.iconst X384.here hx rfl (hb hby Af) ?_
      show Va p e below m T384 49 #[.val (.ref q0), .val (.int 8), .val (.ref b349)] [(.int 4), (.int 8)] t
      refine XS.icmpNo X384.here hx rfl (hb hby Bf) rfl (tlt (by decide : (4 : Int32) < (8 : Int32))).2.2.2 ?_
      refine XS.aloadN X384.here hx rfl (hb hby Ij) rfl rfl ?_
      refine XS.iconst X384.here hx rfl (hb hby Kj) ?_
      refine XS.aloadN X384.here hx rfl (hb hby Lj) rfl rfl ?_
      refine XS.iconst X384.here hx rfl (hb hby Mj) ?_
      refine X384.caload hx (j := (4 : Int32)) (v := (.int c4)) (by rw [e384]; exact Ar388.1) (State.isArrayOf_alike hZ.alike Ar388.2.1) Ar388.2.2 hin389 hat390 (g := (mkF m 56 #[.val (.ref q0), .val (.int 8), .val (.ref b349)] [(.int 4), (.ref q0), (.int 4), (.ref b349)])) rfl rfl (hb hby Pj) _ ?_
      refine st393 _ ?_
      refine XS.iloadN X393.here hx rfl (hb hby Df) rfl ?_
      show Va p e below m T393 59 #[.val (.ref q0), .val (.int 8), .val (.ref b349)] [(.int 8)] t
      refine XS.iconst X393.here hx rfl (hb hby Gf) ?_
      refine XS.icmpNo X393.here hx rfl (hb hby Hf) rfl (tlt (by decide : (5 : Int32) < (8 : Int32))).2.2.2 ?_
      refine XS.aloadN X393.here hx rfl (hb hby Rk) rfl rfl ?_
      refine XS.iconst X393.here hx rfl (hb hby Uk) ?_
      refine XS.aloadN X393.here hx rfl (hb hby Vk) rfl rfl ?_
      refine XS.iconst X393.here hx rfl (hb hby Wk) ?_
      refine X393.caload hx (j := (5 : Int32)) (v := (.int c5)) (by rw [e393]; exact Ar397.1) (State.isArrayOf_alike hZ.alike Ar397.2.1) Ar397.2.2 hin398 hat399 (g := (mkF m 67 #[.val (.ref q0), .val (.int 8), .val (.ref b349)] [(.int 5), (.ref q0), (.int 5), (.ref b349)])) rfl rfl (hb hby Yk) _ ?_
      refine st402 _ ?_
      show Va p e below m T402 69 #[.val (.ref q0), .val (.int 8), .val (.ref b349)] [] t
      refine XS.iloadN X402.here hx rfl (hb hby Kf) rfl ?_
      refine XS.bipush X402.here hx rfl (hb hby Lf) ?_
      refine XS.icmpNo X402.here hx rfl (hb hby Mf) rfl (tlt (by decide : (6 : Int32) < (8 : Int32))).2.2.2 ?_
      refine XS.aloadN X402.here hx rfl (hb hby Wl) rfl rfl ?_
      refine XS.bipush X402.here hx rfl (hb hby Yl) ?_
      refine XS.aloadN X402.here hx rfl (hb hby Zl) rfl rfl ?_
      refine XS.bipush X402.here hx rfl (hb hby Am) ?_
      refine X402.caload hx (j := (6 : Int32)) (v := (.int c6)) (by rw [e402]; exact Ar406.1) (State.isArrayOf_alike hZ.alike Ar406.2.1) Ar406.2.2 hin407 hat408 (g := (mkF m 81 #[.val (.ref q0), .val (.int 8), .val (.ref b349)] [(.int 6), (.ref q0), (.int 6), (.ref b349)])) rfl rfl (hb hby Bm) _ ?_
      show Va p e below m T402 82 #[.val (.ref q0), .val (.int 8), .val (.ref b349)] [(.int c6), (.int 6), (.ref b349)] t
      refine st411 _ ?_
      refine XS.iloadN X411.here hx rfl (hb hby Pf) rfl ?_
      refine XS.bipush X411.here hx rfl (hb hby Rf) ?_
      refine XS.icmpNo X411.here hx rfl (hb hby Uf) rfl (tlt (by decide : (7 : Int32) < (8 : Int32))).2.2.2 ?_
      refine XS.aloadN X411.here hx rfl (hb hby Mn) rfl rfl ?_
      refine XS.bipush X411.here hx rfl (hb hby Pn) ?_
      refine XS.aloadN X411.here hx rfl (hb hby Rn) rfl rfl ?_
      refine XS.bipush X411.here hx rfl (hb hby Un) ?_
      show Va p e below m T411 95 #[.val (.ref q0), .val (.int 8), .val (.ref b349)] [(.int 7), (.ref q0), (.int 7), (.ref b349)] t
      refine X411.caload hx (j := (7 : Int32)) (v := (.int c7)) (by rw [e411]; exact Ar415.1) (State.isArrayOf_alike hZ.alike Ar415.2.1) Ar415.2.2 hin416 hat417 (g := (mkF m 95 #[.val (.ref q0), .val (.int 8), .val (.ref b349)] [(.int 7), (.ref q0), (.int 7), (.ref b349)])) rfl rfl (hb hby Vn) _ ?_
      refine st420 _ ?_
      refine XS.iloadN X420.here hx rfl (hb hby Vf) rfl ?_
      refine XS.bipush X420.here hx rfl (hb hby Wf) ?_
      refine XS.icmpYes X420.here hx rfl (pc0 := 100) (pc' := 111) rfl (hb hby Yd) rfl (flt (by decide : ¬ ((8 : Int32) < (8 : Int32)))).2.2.2 (by decide) (by decide) ?_
      refine st423 _ ?_
      refine XS.dup X423.here hx rfl (hb hby Ae) rfl rfl ?_
      refine XS.aloadN X423.here hx rfl (hb hby Be) rfl rfl ?_
      show Va p e below m T423 116 #[.val (.ref q0), .val (.int 8), .val (.ref b349)] [(.ref b349), (.ref b423), (.ref b423)] t
      exact k
    have f426 := (V420.ext E423)
    have hp427 : ∀ c ∈ ([c0, c1, c2, c3, c4, c5, c6, c7] : List Int32), ¬ c < 0 ∧ ¬ (255 : Int32) < c := (by simp only [List.mem_cons, List.not_mem_nil, or_false, forall_eq_or_imp, forall_eq]; exact ⟨rc0, rc1, rc2, rc3, rc4, rc5, rc6, rc7⟩)
    obtain ⟨_, _, ⟨T428, L428, k428, n428⟩, -, X428, ⟨Lc428, hQ428, l428, y428, z428⟩, st428⟩ := X423.specialBack hx (y := Ml) rfl hown (mvT hZ (Da hw 54 rfl)) (mvT hZ (Da hw 55 rfl)) (mvT hZ (Da hw 56 rfl)) (by decide) (StrChars.Road.backV (W := 1) hZ (Hm hw) (kI := 4) (Da hw 8 rfl) (cs := ([c0, c1, c2, c3, c4, c5, c6, c7] : List Int32)) (bs := (([c0, c1, c2, c3, c4, c5, c6, c7] : List Int32)).map (fun c => c.toInt8.toInt32)) (n := 8) g_b423 (Nat.le_trans (Nat.le_of_eq O423.1.symm) O423.2.1) A423 F423_value F423_coder f426 (Bb.ext O423.2) Za rfl rfl (by decide) (by decide) hp427 rfl (by decide) (by decide)) (g := (mkF m 116 #[.val (.ref q0), .val (.int 8), .val (.ref b349)] [(.ref b349), (.ref b423), (.ref b423)])) rfl (by rw [hml]; rfl) (Steps.refl _) (a := b423) (argsL := [(.ref b349)]) (rest := [(.ref b423)]) (lenOf Dl rfl) rfl (by show 2 * 0 + _ ≤ _; exact Nat.le_of_eq rfl) (hb hby De) (fun _ _ => ⟨rfl, e423, (by decide : 2 + 1 ≤ _), (by decide : 12 + 8 ≤ _)⟩)
    dsimp only [Pt.U, Pt.locs, Pt.cells, Pt.slots] at X428 l428 y428 z428 st428 hQ428
    subst l428 y428 z428
    obtain ⟨rfl, N428q, Kc428, Ex428, Fc428, t428, kb428, g_t428, gs_t428, nx428, Fv428, Av428⟩ := hQ428
    have N428 := Fr.app N420 N428q
    have O428 := O423.keep Kc428 (allS g_b423 all0)
    have CR429 := CR424.trans (CHr.keep Kc428 (allS Sf423 all0) CR424.1)
    have K428 := K423.trans Kc428 (allS (Or.inr s_b423) all0)
    have s_t428 := Nat.le_trans K423.1 gs_t428
    have lt_t428 := Av428.lt
    have k430 : ∀ t, Va p e below m T428 119 #[.val (.ref q0), .val (.int 8), .val (.ref b349)] [(.ref b423)] t → Ab p e below m s₁ #[(.ref q0), (.int nq)] 3 t := by
      intro t k
      refine k425 t ?_
      refine st428.trans ?_
      exact k
    obtain ⟨fs, hr, hrun, hended, hRW⟩ := X428.leaveW hS (by exact (Nat.le_trans (Nat.le_trans (Nat.le_trans (Nat.le_trans (Nat.le_trans (Nat.le_trans (Nat.le_trans (Nat.le_trans (Nat.le_trans (Nat.le_trans (Nat.le_trans (Nat.zero_le _) E349.1) (Keep.of_wr W357).1) (Keep.of_wr W366).1) (Keep.of_wr W375).1) (Keep.of_wr W384).1) (Keep.of_wr W393).1) (Keep.of_wr W402).1) (Keep.of_wr W411).1) (Keep.of_wr W420).1) E423.1) Kc428.1)) (v := some (.ref b423)) (fun h => by rw [Bd.returns] at h; cases h)
    refine hNG ⟨_, _, k430 _ ?_, hrun, hended, _, _, rfl, ?_, by rw [hh]; show CHr Z Ub s.vm h0 T428.vm T428.heap; exact CR429.trans (CHv.at X428 hZ (Vd hw) CR429.1), hRW.1, hRW.2.1, hRW.2.2.1, hRW.2.2.2.mono (by decide) (by decide)⟩
    · exact retOut X428 hx (t := (.object "java/lang/String")) Bd.returns rfl (Or.inr (Or.inr (Or.inr (Or.inr ⟨rfl, rfl, rfl⟩)))) (hb hby Ge) hr
    · show Km Z q0 kq nq c0 c1 c2 c3 c4 c5 c6 c7 c8 Ra Ya Pa Wa Ma Ga Ka Ba Ua Ha La Ia h0 n0 _ T428.heap _
      exact ⟨b423, t428, kb428, (8 : Int32), ((([c0, c1, c2, c3, c4, c5, c6, c7] : List Int32)).map (fun c => c.toInt8.toInt32)).map Value.int, ([c0, c1, c2, c3, c4, c5, c6, c7] : List Int32), rfl, N428, O428, K428, g_b423, s_b423, Ex428, Fc428, Fv428, Av428, StrChars.Road.codOf (cs := ([c0, c1, c2, c3, c4, c5, c6, c7] : List Int32)) (n := 8) rfl (fun c hc => (hp427 c hc).2), hp427, (Nat.le_of_ble_eq_true rfl)⟩
  · have k431 : ∀ t, Va p e below m s₁ 0 #[.val (.ref q0), .val (.int 9), .unset] [] t → Ab p e below m s₁ #[(.ref q0), (.int nq)] 3 t := by
      intro t k
      refine k00 t ?_
      rw [hs10]
      exact k
    obtain ⟨T432, h432, c432, X432, e432, E432, A432, st432⟩ := newP X00 hx hZ (Da hw 1 rfl) e00 (g := (mkF m 1 #[.val (.ref q0), .val (.int 9), .unset] [(.int 9)])) rfl (hb hby Ag) rfl (by decide) (cap := 9) (by decide) (by decide) (by decide) (by decide)
    obtain ⟨b432, g432⟩ : ∃ z, z = h0.size := ⟨_, rfl⟩
    have Sf432 : Safe Z Ub _ h432 b432 := Safe.ext E432 CR0.1 (Safe.new (Nat.le_of_eq g432.symm))
    have CR433 := CR0.trans (CHr.ext E432 CR0.1)
    rw [← g432] at A432 st432
    have O432 := O0.ext E432
    have g_b432 : n0 ≤ b432 := Nat.le_trans (Nat.le_of_eq O0.1.symm) (Nat.le_trans O0.2.1 (Nat.le_of_eq g432.symm))
    have s_b432 : h0.size ≤ b432 := Nat.le_trans K00.1 (Nat.le_of_eq g432.symm)
    have K432 := K00.ext E432
    have V432 : Arv Z h432 b432 c432 .char (9 : Int32) [(.int 0), (.int 0), (.int 0), (.int 0), (.int 0), (.int 0), (.int 0), (.int 0), (.int 0)] (.int 0) := (Arv.new A432 (by decide)).pad (pad_rep [] (.int 0) 9)
    have lt_b432 := V432.lt
    have f434 := (P0.ext E432)
    obtain ⟨cl435, Ar435, q435, Sz435, Nn435, Hs435, Gf435⟩ := id f434
    have hin436 : ¬ ((0 : Int32) < 0 ∨ cl435.slots.size ≤ ((0 : Int32)).toNatClampNeg) := inb_of Sz435 ⟨by decide, by decide⟩
    have hat437 : cl435.slots[((0 : Int32)).toNatClampNeg]? = some (.int c0) := Hs435.at hin436 rfl
    obtain ⟨cl438, Ar438, q438, Sz438, Nn438, Hs438, Gf438⟩ := id V432
    have hin439 : ¬ ((0 : Int32) < 0 ∨ cl438.slots.size ≤ ((0 : Int32)).toNatClampNeg) := inb_of Sz438 ⟨by decide, by decide⟩
    obtain ⟨T440, h440, X440, e440, W440, st440⟩ := stC X432 hx hZ e432 Ar438 (j := (0 : Int32)) hin439 (g := (mkF m 13 #[.val (.ref q0), .val (.int 9), .val (.ref b432)] [(.int c0), (.int 0), (.ref b432)])) rfl rfl (hb hby Mg)
    have V440 : Arv Z h440 b432 c432 .char (9 : Int32) [(.int c0), (.int 0), (.int 0), (.int 0), (.int 0), (.int 0), (.int 0), (.int 0), (.int 0)] (.int 0) := by
      have q := Arv.set Ar438 q438 Sz438 Nn438 Hs438 Gf438 (fits_nar_char _) W440 0 rfl (Nat.le_of_ble_eq_true rfl)
      first | exact q | (simp only [Aa rc0, Aa rc1, Aa rc2, Aa rc3, Aa rc4, Aa rc5, Aa rc6, Aa rc7, Aa rc8] at q; exact q)
    have CR441 := CR433.trans (CHr.wr W440 Sf432 CR433.1)
    have N440 := Fr.snoc X440 N00 g_b432
    have O440 := O432.wr W440 g_b432
    have K440 := K432.wr W440 (Or.inr s_b432)
    have ne442 : ¬ (q0 = b432) := (Nat.ne_of_lt (Nat.lt_of_lt_of_le P0.lt (Nat.le_of_eq g432.symm)))
    have f443 := (f434.other W440 ne442)
    obtain ⟨cl444, Ar444, q444, Sz444, Nn444, Hs444, Gf444⟩ := id f443
    have hin445 : ¬ ((1 : Int32) < 0 ∨ cl444.slots.size ≤ ((1 : Int32)).toNatClampNeg) := inb_of Sz444 ⟨by decide, by decide⟩
    have hat446 : cl444.slots[((1 : Int32)).toNatClampNeg]? = some (.int c1) := Hs444.at hin445 rfl
    obtain ⟨cl447, Ar447, q447, Sz447, Nn447, Hs447, Gf447⟩ := id V440
    have hin448 : ¬ ((1 : Int32) < 0 ∨ cl447.slots.size ≤ ((1 : Int32)).toNatClampNeg) := inb_of Sz447 ⟨by decide, by decide⟩
    obtain ⟨T449, h449, X449, e449, W449, st449⟩ := stC X440 hx hZ e440 Ar447 (j := (1 : Int32)) hin448 (g := (mkF m 24 #[.val (.ref q0), .val (.int 9), .val (.ref b432)] [(.int c1), (.int 1), (.ref b432)])) rfl rfl (hb hby Dh)
    have V449 : Arv Z h449 b432 c432 .char (9 : Int32) [(.int c0), (.int c1), (.int 0), (.int 0), (.int 0), (.int 0), (.int 0), (.int 0), (.int 0)] (.int 0) := by
      have q := Arv.set Ar447 q447 Sz447 Nn447 Hs447 Gf447 (fits_nar_char _) W449 1 rfl (Nat.le_of_ble_eq_true rfl)
      first | exact q | (simp only [Aa rc0, Aa rc1, Aa rc2, Aa rc3, Aa rc4, Aa rc5, Aa rc6, Aa rc7, Aa rc8] at q; exact q)
    have sf451 := (Safe.wr W440 Sf432 CR433.1 Sf432)
    have CR450 := CR441.trans (CHr.wr W449 sf451 CR441.1)
    have N449 := Fr.snoc X449 N440 g_b432
    have O449 := O440.wr W449 g_b432
    have K449 := K440.wr W449 (Or.inr s_b432)
    have f452 := (f443.other W449 ne442)
    obtain ⟨cl453, Ar453, q453, Sz453, Nn453, Hs453, Gf453⟩ := id f452
    have hin454 : ¬ ((2 : Int32) < 0 ∨ cl453.slots.size ≤ ((2 : Int32)).toNatClampNeg) := inb_of Sz453 ⟨by decide, by decide⟩
    have hat455 : cl453.slots[((2 : Int32)).toNatClampNeg]? = some (.int c2) := Hs453.at hin454 rfl
    obtain ⟨cl456, Ar456, q456, Sz456, Nn456, Hs456, Gf456⟩ := id V449
    have hin457 : ¬ ((2 : Int32) < 0 ∨ cl456.slots.size ≤ ((2 : Int32)).toNatClampNeg) := inb_of Sz456 ⟨by decide, by decide⟩
    obtain ⟨T458, h458, X458, e458, W458, st458⟩ := stC X449 hx hZ e449 Ar456 (j := (2 : Int32)) hin457 (g := (mkF m 35 #[.val (.ref q0), .val (.int 9), .val (.ref b432)] [(.int c2), (.int 2), (.ref b432)])) rfl rfl (hb hby Yh)
    have V458 : Arv Z h458 b432 c432 .char (9 : Int32) [(.int c0), (.int c1), (.int c2), (.int 0), (.int 0), (.int 0), (.int 0), (.int 0), (.int 0)] (.int 0) := by
      have q := Arv.set Ar456 q456 Sz456 Nn456 Hs456 Gf456 (fits_nar_char _) W458 2 rfl (Nat.le_of_ble_eq_true rfl)
      first | exact q | (simp only [Aa rc0, Aa rc1, Aa rc2, Aa rc3, Aa rc4, Aa rc5, Aa rc6, Aa rc7, Aa rc8] at q; exact q)
    have sf460 := (Safe.wr W449 sf451 CR441.1 sf451)
    have CR459 := CR450.trans (CHr.wr W458 sf460 CR450.1)
    have N458 := Fr.snoc X458 N449 g_b432
    have O458 := O449.wr W458 g_b432
    have K458 := K449.wr W458 (Or.inr s_b432)
    have f461 := (f452.other W458 ne442)
    obtain ⟨cl462, Ar462, q462, Sz462, Nn462, Hs462, Gf462⟩ := id f461
    have hin463 : ¬ ((3 : Int32) < 0 ∨ cl462.slots.size ≤ ((3 : Int32)).toNatClampNeg) := inb_of Sz462 ⟨by decide, by decide⟩
    have hat464 : cl462.slots[((3 : Int32)).toNatClampNeg]? = some (.int c3) := Hs462.at hin463 rfl
    obtain ⟨cl465, Ar465, q465, Sz465, Nn465, Hs465, Gf465⟩ := id V458
    have hin466 : ¬ ((3 : Int32) < 0 ∨ cl465.slots.size ≤ ((3 : Int32)).toNatClampNeg) := inb_of Sz465 ⟨by decide, by decide⟩
    obtain ⟨T467, h467, X467, e467, W467, st467⟩ := stC X458 hx hZ e458 Ar465 (j := (3 : Int32)) hin466 (g := (mkF m 46 #[.val (.ref q0), .val (.int 9), .val (.ref b432)] [(.int c3), (.int 3), (.ref b432)])) rfl rfl (hb hby Yi)
    have V467 : Arv Z h467 b432 c432 .char (9 : Int32) [(.int c0), (.int c1), (.int c2), (.int c3), (.int 0), (.int 0), (.int 0), (.int 0), (.int 0)] (.int 0) := by
      have q := Arv.set Ar465 q465 Sz465 Nn465 Hs465 Gf465 (fits_nar_char _) W467 3 rfl (Nat.le_of_ble_eq_true rfl)
      first | exact q | (simp only [Aa rc0, Aa rc1, Aa rc2, Aa rc3, Aa rc4, Aa rc5, Aa rc6, Aa rc7, Aa rc8] at q; exact q)
    have sf469 := (Safe.wr W458 sf460 CR450.1 sf460)
    have CR468 := CR459.trans (CHr.wr W467 sf469 CR459.1)
    have N467 := Fr.snoc X467 N458 g_b432
    have O467 := O458.wr W467 g_b432
    have K467 := K458.wr W467 (Or.inr s_b432)
    have f470 := (f461.other W467 ne442)
    obtain ⟨cl471, Ar471, q471, Sz471, Nn471, Hs471, Gf471⟩ := id f470
    have hin472 : ¬ ((4 : Int32) < 0 ∨ cl471.slots.size ≤ ((4 : Int32)).toNatClampNeg) := inb_of Sz471 ⟨by decide, by decide⟩
    have hat473 : cl471.slots[((4 : Int32)).toNatClampNeg]? = some (.int c4) := Hs471.at hin472 rfl
    obtain ⟨cl474, Ar474, q474, Sz474, Nn474, Hs474, Gf474⟩ := id V467
    have hin475 : ¬ ((4 : Int32) < 0 ∨ cl474.slots.size ≤ ((4 : Int32)).toNatClampNeg) := inb_of Sz474 ⟨by decide, by decide⟩
    obtain ⟨T476, h476, X476, e476, W476, st476⟩ := stC X467 hx hZ e467 Ar474 (j := (4 : Int32)) hin475 (g := (mkF m 57 #[.val (.ref q0), .val (.int 9), .val (.ref b432)] [(.int c4), (.int 4), (.ref b432)])) rfl rfl (hb hby Rj)
    have V476 : Arv Z h476 b432 c432 .char (9 : Int32) [(.int c0), (.int c1), (.int c2), (.int c3), (.int c4), (.int 0), (.int 0), (.int 0), (.int 0)] (.int 0) := by
      have q := Arv.set Ar474 q474 Sz474 Nn474 Hs474 Gf474 (fits_nar_char _) W476 4 rfl (Nat.le_of_ble_eq_true rfl)
      first | exact q | (simp only [Aa rc0, Aa rc1, Aa rc2, Aa rc3, Aa rc4, Aa rc5, Aa rc6, Aa rc7, Aa rc8] at q; exact q)
    have sf478 := (Safe.wr W467 sf469 CR459.1 sf469)
    have CR477 := CR468.trans (CHr.wr W476 sf478 CR468.1)
    have N476 := Fr.snoc X476 N467 g_b432
    have O476 := O467.wr W476 g_b432
    have K476 := K467.wr W476 (Or.inr s_b432)
    have f479 := (f470.other W476 ne442)
    obtain ⟨cl480, Ar480, q480, Sz480, Nn480, Hs480, Gf480⟩ := id f479
    have hin481 : ¬ ((5 : Int32) < 0 ∨ cl480.slots.size ≤ ((5 : Int32)).toNatClampNeg) := inb_of Sz480 ⟨by decide, by decide⟩
    have hat482 : cl480.slots[((5 : Int32)).toNatClampNeg]? = some (.int c5) := Hs480.at hin481 rfl
    obtain ⟨cl483, Ar483, q483, Sz483, Nn483, Hs483, Gf483⟩ := id V476
    have hin484 : ¬ ((5 : Int32) < 0 ∨ cl483.slots.size ≤ ((5 : Int32)).toNatClampNeg) := inb_of Sz483 ⟨by decide, by decide⟩
    obtain ⟨T485, h485, X485, e485, W485, st485⟩ := stC X476 hx hZ e476 Ar483 (j := (5 : Int32)) hin484 (g := (mkF m 68 #[.val (.ref q0), .val (.int 9), .val (.ref b432)] [(.int c5), (.int 5), (.ref b432)])) rfl rfl (hb hby Zk)
    have V485 : Arv Z h485 b432 c432 .char (9 : Int32) [(.int c0), (.int c1), (.int c2), (.int c3), (.int c4), (.int c5), (.int 0), (.int 0), (.int 0)] (.int 0) := by
      have q := Arv.set Ar483 q483 Sz483 Nn483 Hs483 Gf483 (fits_nar_char _) W485 5 rfl (Nat.le_of_ble_eq_true rfl)
      first | exact q | (simp only [Aa rc0, Aa rc1, Aa rc2, Aa rc3, Aa rc4, Aa rc5, Aa rc6, Aa rc7, Aa rc8] at q; exact q)
    have sf487 := (Safe.wr W476 sf478 CR468.1 sf478)
    have CR486 := CR477.trans (CHr.wr W485 sf487 CR477.1)
    have N485 := Fr.snoc X485 N476 g_b432
    have O485 := O476.wr W485 g_b432
    have K485 := K476.wr W485 (Or.inr s_b432)
    have f488 := (f479.other W485 ne442)
    obtain ⟨cl489, Ar489, q489, Sz489, Nn489, Hs489, Gf489⟩ := id f488
    have hin490 : ¬ ((6 : Int32) < 0 ∨ cl489.slots.size ≤ ((6 : Int32)).toNatClampNeg) := inb_of Sz489 ⟨by decide, by decide⟩
    have hat491 : cl489.slots[((6 : Int32)).toNatClampNeg]? = some (.int c6) := Hs489.at hin490 rfl
    obtain ⟨cl492, Ar492, q492, Sz492, Nn492, Hs492, Gf492⟩ := id V485
    have hin493 : ¬ ((6 : Int32) < 0 ∨ cl492.slots.size ≤ ((6 : Int32)).toNatClampNeg) := inb_of Sz492 ⟨by decide, by decide⟩
    obtain ⟨T494, h494, X494, e494, W494, st494⟩ := stC X485 hx hZ e485 Ar492 (j := (6 : Int32)) hin493 (g := (mkF m 82 #[.val (.ref q0), .val (.int 9), .val (.ref b432)] [(.int c6), (.int 6), (.ref b432)])) rfl rfl (hb hby Dm)
    have V494 : Arv Z h494 b432 c432 .char (9 : Int32) [(.int c0), (.int c1), (.int c2), (.int c3), (.int c4), (.int c5), (.int c6), (.int 0), (.int 0)] (.int 0) := by
      have q := Arv.set Ar492 q492 Sz492 Nn492 Hs492 Gf492 (fits_nar_char _) W494 6 rfl (Nat.le_of_ble_eq_true rfl)
      first | exact q | (simp only [Aa rc0, Aa rc1, Aa rc2, Aa rc3, Aa rc4, Aa rc5, Aa rc6, Aa rc7, Aa rc8] at q; exact q)
    have sf496 := (Safe.wr W485 sf487 CR477.1 sf487)
    have CR495 := CR486.trans (CHr.wr W494 sf496 CR486.1)
    have N494 := Fr.snoc X494 N485 g_b432
    have O494 := O485.wr W494 g_b432
    have K494 := K485.wr W494 (Or.inr s_b432)
    have f497 := (f488.other W494 ne442)
    obtain ⟨cl498, Ar498, q498, Sz498, Nn498, Hs498, Gf498⟩ := id f497
    have hin499 : ¬ ((7 : Int32) < 0 ∨ cl498.slots.size ≤ ((7 : Int32)).toNatClampNeg) := inb_of Sz498 ⟨by decide, by decide⟩
    have hat500 : cl498.slots[((7 : Int32)).toNatClampNeg]? = some (.int c7) := Hs498.at hin499 rfl
    obtain ⟨cl501, Ar501, q501, Sz501, Nn501, Hs501, Gf501⟩ := id V494
    have hin502 : ¬ ((7 : Int32) < 0 ∨ cl501.slots.size ≤ ((7 : Int32)).toNatClampNeg) := inb_of Sz501 ⟨by decide, by decide⟩
    obtain ⟨T503, h503, X503, e503, W503, st503⟩ := stC X494 hx hZ e494 Ar501 (j := (7 : Int32)) hin502 (g := (mkF m 96 #[.val (.ref q0), .val (.int 9), .val (.ref b432)] [(.int c7), (.int 7), (.ref b432)])) rfl rfl (hb hby Wn)
    have V503 : Arv Z h503 b432 c432 .char (9 : Int32) [(.int c0), (.int c1), (.int c2), (.int c3), (.int c4), (.int c5), (.int c6), (.int c7), (.int 0)] (.int 0) := by
      have q := Arv.set Ar501 q501 Sz501 Nn501 Hs501 Gf501 (fits_nar_char _) W503 7 rfl (Nat.le_of_ble_eq_true rfl)
      first | exact q | (simp only [Aa rc0, Aa rc1, Aa rc2, Aa rc3, Aa rc4, Aa rc5, Aa rc6, Aa rc7, Aa rc8] at q; exact q)
    have sf505 := (Safe.wr W494 sf496 CR486.1 sf496)
    have CR504 := CR495.trans (CHr.wr W503 sf505 CR495.1)
    have N503 := Fr.snoc X503 N494 g_b432
    have O503 := O494.wr W503 g_b432
    have K503 := K494.wr W503 (Or.inr s_b432)
    have f506 := (f497.other W503 ne442)
    obtain ⟨cl507, Ar507, q507, Sz507, Nn507, Hs507, Gf507⟩ := id f506
    have hin508 : ¬ ((8 : Int32) < 0 ∨ cl507.slots.size ≤ ((8 : Int32)).toNatClampNeg) := inb_of Sz507 ⟨by decide, by decide⟩
    have hat509 : cl507.slots[((8 : Int32)).toNatClampNeg]? = some (.int c8) := Hs507.at hin508 rfl
    obtain ⟨cl510, Ar510, q510, Sz510, Nn510, Hs510, Gf510⟩ := id V503
    have hin511 : ¬ ((8 : Int32) < 0 ∨ cl510.slots.size ≤ ((8 : Int32)).toNatClampNeg) := inb_of Sz510 ⟨by decide, by decide⟩
    obtain ⟨T512, h512, X512, e512, W512, st512⟩ := stC X503 hx hZ e503 Ar510 (j := (8 : Int32)) hin511 (g := (mkF m 110 #[.val (.ref q0), .val (.int 9), .val (.ref b432)] [(.int c8), (.int 8), (.ref b432)])) rfl rfl (hb hby Gq)
    have V512 : Arv Z h512 b432 c432 .char (9 : Int32) [(.int c0), (.int c1), (.int c2), (.int c3), (.int c4), (.int c5), (.int c6), (.int c7), (.int c8)] (.int 0) := by
      have q := Arv.set Ar510 q510 Sz510 Nn510 Hs510 Gf510 (fits_nar_char _) W512 8 rfl (Nat.le_of_ble_eq_true rfl)
      first | exact q | (simp only [Aa rc0, Aa rc1, Aa rc2, Aa rc3, Aa rc4, Aa rc5, Aa rc6, Aa rc7, Aa rc8] at q; exact q)
    have sf514 := (Safe.wr W503 sf505 CR495.1 sf505)
    have CR513 := CR504.trans (CHr.wr W512 sf514 CR504.1)
    have N512 := Fr.snoc X512 N503 g_b432
    have O512 := O503.wr W512 g_b432
    have K512 := K503.wr W512 (Or.inr s_b432)
    obtain ⟨T515, h515, X515, e515, E515, A515, D515, -, st515⟩ := newO X512 hx hZ hown (Da hw 53 rfl) (Da hw 8 rfl) (Da hw 7 rfl) e512 (g := (mkF m 111 #[.val (.ref q0), .val (.int 9), .val (.ref b432)] [])) rfl (hb hby Zd) (by decide) (by decide)
    obtain ⟨b515, g515⟩ : ∃ z, z = h512.size := ⟨_, rfl⟩
    have Sf515 : Safe Z Ub _ h515 b515 := Safe.ext E515 CR513.1 (Safe.new (Nat.le_of_eq g515.symm))
    have CR516 := CR513.trans (CHr.ext E515 CR513.1)
    rw [← g515] at A515 D515 st515
    have O515 := O512.ext E515
    have g_b515 : n0 ≤ b515 := Nat.le_trans (Nat.le_of_eq O512.1.symm) (Nat.le_trans O512.2.1 (Nat.le_of_eq g515.symm))
    have s_b515 : h0.size ≤ b515 := Nat.le_trans K512.1 (Nat.le_of_eq g515.symm)
    have K515 := K512.ext E515
    have lt_b515 := A515.lt
    have F515_value : Fld Z h515 b515 "java/lang/String" "value" "[B" .null := D515 (Or.inr (Da hw 10 rfl)) (ty := (.array .byte)) (by decide)
    have F515_coder : Fld Z h515 b515 "java/lang/String" "coder" "B" (.int 0) := D515 (Or.inr (Da hw 11 rfl)) (ty := .byte) (by decide)
    have k517 : ∀ t, Va p e below m T515 116 #[.val (.ref q0), .val (.int 9), .val (.ref b432)] [(.ref b432), (.ref b515), (.ref b515)] t → Ab p e below m s₁ #[(.ref q0), (.int nq)] 3 t := by
      intro t k
      refine k431 t ?_
      refine XS.iloadN X00.here hx rfl (hb hby Zf) rfl ?_
      refine st432 _ ?_
      refine XS.astoreN X432.here hx rfl (hb hby Bg) rfl rfl (l' := #[.val (.ref q0), .val (.int 9), .val (.ref b432)]) rfl ?_
      refine XS.iloadN X432.here hx rfl (hb hby Dg) rfl ?_
      refine XS.ifNo X432.here hx rfl (hb hby Gg) rfl ((if0 _ _).trans (tlt (by decide : (0 : Int32) < (9 : Int32))).2.2.2) ?_
      refine XS.aloadN X432.here hx rfl (hb hby Ug) rfl rfl ?_
      refine XS.iconst X432.here hx rfl (hb hby Vg) ?_
      refine XS.aloadN X432.here hx rfl (hb hby Ig) rfl rfl ?_
      show Va p e below m T432 11 #[.val (.ref q0), .val (.int 9), .val (.ref b432)] [(.ref q0), (.int 0), (.ref b432)] t
      refine XS.iconst X432.here hx rfl (hb hby Kg) ?_
      refine X432.caload hx (j := (0 : Int32)) (v := (.int c0)) (by rw [e432]; exact Ar435.1) (State.isArrayOf_alike hZ.alike Ar435.2.1) Ar435.2.2 hin436 hat437 (g := (mkF m 12 #[.val (.ref q0), .val (.int 9), .val (.ref b432)] [(.int 0), (.ref q0), (.int 0), (.ref b432)])) rfl rfl (hb hby Lg) _ ?_
      refine st440 _ ?_
      refine XS.iloadN X440.here hx rfl (hb hby Ke) rfl ?_
      refine XS.iconst X440.here hx rfl (hb hby Le) ?_
      refine XS.icmpNo X440.here hx rfl (hb hby Me) rfl (tlt (by decide : (1 : Int32) < (9 : Int32))).2.2.2 ?_
      refine XS.aloadN X440.here hx rfl (hb hby Wg) rfl rfl ?_
      refine XS.iconst X440.here hx rfl (hb hby Yg) ?_
      show Va p e below m T440 21 #[.val (.ref q0), .val (.int 9), .val (.ref b432)] [(.int 1), (.ref b432)] t
      refine XS.aloadN X440.here hx rfl (hb hby Zg) rfl rfl ?_
      refine XS.iconst X440.here hx rfl (hb hby Ah) ?_
      refine X440.caload hx (j := (1 : Int32)) (v := (.int c1)) (by rw [e440]; exact Ar444.1) (State.isArrayOf_alike hZ.alike Ar444.2.1) Ar444.2.2 hin445 hat446 (g := (mkF m 23 #[.val (.ref q0), .val (.int 9), .val (.ref b432)] [(.int 1), (.ref q0), (.int 1), (.ref b432)])) rfl rfl (hb hby Bh) _ ?_
      refine st449 _ ?_
      refine XS.iloadN X449.here hx rfl (hb hby Pe) rfl ?_
      refine XS.iconst X449.here hx rfl (hb hby Re) ?_
      refine XS.icmpNo X449.here hx rfl (hb hby Ue) rfl (tlt (by decide : (2 : Int32) < (9 : Int32))).2.2.2 ?_
      refine XS.aloadN X449.here hx rfl (hb hby Ph) rfl rfl ?_
      show Va p e below m T449 31 #[.val (.ref q0), .val (.int 9), .val (.ref b432)] [(.ref b432)] t
      refine XS.iconst X449.here hx rfl (hb hby Rh) ?_
      refine XS.aloadN X449.here hx rfl (hb hby Uh) rfl rfl ?_
      refine XS.iconst X449.here hx rfl (hb hby Vh) ?_
      refine X449.caload hx (j := (2 : Int32)) (v := (.int c2)) (by rw [e449]; exact Ar453.1) (State.isArrayOf_alike hZ.alike Ar453.2.1) Ar453.2.2 hin454 hat455 (g := (mkF m 34 #[.val (.ref q0), .val (.int 9), .val (.ref b432)] [(.int 2), (.ref q0), (.int 2), (.ref b432)])) rfl rfl (hb hby Wh) _ ?_
      refine st458 _ ?_
      refine XS.iloadN X458.here hx rfl (hb hby Ve) rfl ?_
      refine XS.iconst X458.here hx rfl (hb hby We) ?_
      refine XS.icmpNo X458.here hx rfl (hb hby Ye) rfl (tlt (by decide : (3 : Int32) < (9 : Int32))).2.2.2 ?_
      show Va p e below m T458 41 #[.val (.ref q0), .val (.int 9), .val (.ref b432)] [] t
      refine XS.aloadN X458.here hx rfl (hb hby Pi) rfl rfl ?_
      refine XS.iconst X458.here hx rfl (hb hby Ri) ?_
      refine XS.aloadN X458.here hx rfl (hb hby Ui) rfl rfl ?_
      refine XS.iconst X458.here hx rfl (hb hby Vi) ?_
      refine X458.caload hx (j := (3 : Int32)) (v := (.int c3)) (by rw [e458]; exact Ar462.1) (State.isArrayOf_alike hZ.alike Ar462.2.1) Ar462.2.2 hin463 hat464 (g := (mkF m 45 #[.val (.ref q0), .val (.int 9), .val (.ref b432)] [(.int 3), (.ref q0), (.int 3), (.ref b432)])) rfl rfl (hb hby Wi) _ ?_
      refine st467 _ ?_
      refine XS.iloadN X467.here hx rfl (hb hby Ze) rfl ?_
      refine XS.iconst X467.here hx rfl (hb hby Af) ?_
      show Va p e below m T467 49 #[.val (.ref q0), .val (.int 9), .val (.ref b432)] [(.int 4), (.int 9)] t
      refine XS.icmpNo X467.here hx rfl (hb hby Bf) rfl (tlt (by decide : (4 : Int32) < (9 : Int32))).2.2.2 ?_
      refine XS.aloadN X467.here hx rfl (hb hby Ij) rfl rfl ?_
      refine XS.iconst X467.here hx rfl (hb hby Kj) ?_
      refine XS.aloadN X467.here hx rfl (hb hby Lj) rfl rfl ?_
      refine XS.iconst X467.here hx rfl (hb hby Mj) ?_
      refine X467.caload hx (j := (4 : Int32)) (v := (.int c4)) (by rw [e467]; exact Ar471.1) (State.isArrayOf_alike hZ.alike Ar471.2.1) Ar471.2.2 hin472 hat473 (g := (mkF m 56 #[.val (.ref q0), .val (.int 9), .val (.ref b432)] [(.int 4), (.ref q0), (.int 4), (.ref b432)])) rfl rfl (hb hby Pj) _ ?_
      refine st476 _ ?_
      refine XS.iloadN X476.here hx rfl (hb hby Df) rfl ?_
      show Va p e below m T476 59 #[.val (.ref q0), .val (.int 9), .val (.ref b432)] [(.int 9)] t
      refine XS.iconst X476.here hx rfl (hb hby Gf) ?_
      refine XS.icmpNo X476.here hx rfl (hb hby Hf) rfl (tlt (by decide : (5 : Int32) < (9 : Int32))).2.2.2 ?_
      refine XS.aloadN X476.here hx rfl (hb hby Rk) rfl rfl ?_
      refine XS.iconst X476.here hx rfl (hb hby Uk) ?_
      refine XS.aloadN X476.here hx rfl (hb hby Vk) rfl rfl ?_
      refine XS.iconst X476.here hx rfl (hb hby Wk) ?_
      refine X476.caload hx (j := (5 : Int32)) (v := (.int c5)) (by rw [e476]; exact Ar480.1) (State.isArrayOf_alike hZ.alike Ar480.2.1) Ar480.2.2 hin481 hat482 (g := (mkF m 67 #[.val (.ref q0), .val (.int 9), .val (.ref b432)] [(.int 5), (.ref q0), (.int 5), (.ref b432)])) rfl rfl (hb hby Yk) _ ?_
      refine st485 _ ?_
      show Va p e below m T485 69 #[.val (.ref q0), .val (.int 9), .val (.ref b432)] [] t
      refine XS.iloadN X485.here hx rfl (hb hby Kf) rfl ?_
      refine XS.bipush X485.here hx rfl (hb hby Lf) ?_
      refine XS.icmpNo X485.here hx rfl (hb hby Mf) rfl (tlt (by decide : (6 : Int32) < (9 : Int32))).2.2.2 ?_
      refine XS.aloadN X485.here hx rfl (hb hby Wl) rfl rfl ?_
      refine XS.bipush X485.here hx rfl (hb hby Yl) ?_
      refine XS.aloadN X485.here hx rfl (hb hby Zl) rfl rfl ?_
      refine XS.bipush X485.here hx rfl (hb hby Am) ?_
      refine X485.caload hx (j := (6 : Int32)) (v := (.int c6)) (by rw [e485]; exact Ar489.1) (State.isArrayOf_alike hZ.alike Ar489.2.1) Ar489.2.2 hin490 hat491 (g := (mkF m 81 #[.val (.ref q0), .val (.int 9), .val (.ref b432)] [(.int 6), (.ref q0), (.int 6), (.ref b432)])) rfl rfl (hb hby Bm) _ ?_
      show Va p e below m T485 82 #[.val (.ref q0), .val (.int 9), .val (.ref b432)] [(.int c6), (.int 6), (.ref b432)] t
      refine st494 _ ?_
      refine XS.iloadN X494.here hx rfl (hb hby Pf) rfl ?_
      refine XS.bipush X494.here hx rfl (hb hby Rf) ?_
      refine XS.icmpNo X494.here hx rfl (hb hby Uf) rfl (tlt (by decide : (7 : Int32) < (9 : Int32))).2.2.2 ?_
      refine XS.aloadN X494.here hx rfl (hb hby Mn) rfl rfl ?_
      refine XS.bipush X494.here hx rfl (hb hby Pn) ?_
      refine XS.aloadN X494.here hx rfl (hb hby Rn) rfl rfl ?_
      refine XS.bipush X494.here hx rfl (hb hby Un) ?_
      show Va p e below m T494 95 #[.val (.ref q0), .val (.int 9), .val (.ref b432)] [(.int 7), (.ref q0), (.int 7), (.ref b432)] t
      refine X494.caload hx (j := (7 : Int32)) (v := (.int c7)) (by rw [e494]; exact Ar498.1) (State.isArrayOf_alike hZ.alike Ar498.2.1) Ar498.2.2 hin499 hat500 (g := (mkF m 95 #[.val (.ref q0), .val (.int 9), .val (.ref b432)] [(.int 7), (.ref q0), (.int 7), (.ref b432)])) rfl rfl (hb hby Vn) _ ?_
      refine st503 _ ?_
      refine XS.iloadN X503.here hx rfl (hb hby Vf) rfl ?_
      refine XS.bipush X503.here hx rfl (hb hby Wf) ?_
      refine XS.icmpNo X503.here hx rfl (hb hby Yd) rfl (tlt (by decide : (8 : Int32) < (9 : Int32))).2.2.2 ?_
      refine XS.aloadN X503.here hx rfl (hb hby Yp) rfl rfl ?_
      refine XS.bipush X503.here hx rfl (hb hby Zp) ?_
      refine XS.aloadN X503.here hx rfl (hb hby Aq) rfl rfl ?_
      show Va p e below m T503 107 #[.val (.ref q0), .val (.int 9), .val (.ref b432)] [(.ref q0), (.int 8), (.ref b432)] t
      refine XS.bipush X503.here hx rfl (hb hby Bq) ?_
      refine X503.caload hx (j := (8 : Int32)) (v := (.int c8)) (by rw [e503]; exact Ar507.1) (State.isArrayOf_alike hZ.alike Ar507.2.1) Ar507.2.2 hin508 hat509 (g := (mkF m 109 #[.val (.ref q0), .val (.int 9), .val (.ref b432)] [(.int 8), (.ref q0), (.int 8), (.ref b432)])) rfl rfl (hb hby Dq) _ ?_
      refine st512 _ ?_
      refine st515 _ ?_
      refine XS.dup X515.here hx rfl (hb hby Ae) rfl rfl ?_
      refine XS.aloadN X515.here hx rfl (hb hby Be) rfl rfl ?_
      exact k
    have f518 := (V512.ext E515)
    have hp519 : ∀ c ∈ ([c0, c1, c2, c3, c4, c5, c6, c7, c8] : List Int32), ¬ c < 0 ∧ ¬ (255 : Int32) < c := (by simp only [List.mem_cons, List.not_mem_nil, or_false, forall_eq_or_imp, forall_eq]; exact ⟨rc0, rc1, rc2, rc3, rc4, rc5, rc6, rc7, rc8⟩)
    obtain ⟨_, _, ⟨T520, L520, k520, n520⟩, -, X520, ⟨Lc520, hQ520, l520, y520, z520⟩, st520⟩ := X515.specialBack hx (y := Ml) rfl hown (mvT hZ (Da hw 54 rfl)) (mvT hZ (Da hw 55 rfl)) (mvT hZ (Da hw 56 rfl)) (by decide) (StrChars.Road.backV (W := 1) hZ (Hm hw) (kI := 4) (Da hw 8 rfl) (cs := ([c0, c1, c2, c3, c4, c5, c6, c7, c8] : List Int32)) (bs := (([c0, c1, c2, c3, c4, c5, c6, c7, c8] : List Int32)).map (fun c => c.toInt8.toInt32)) (n := 9) g_b515 (Nat.le_trans (Nat.le_of_eq O515.1.symm) O515.2.1) A515 F515_value F515_coder f518 (Bb.ext O515.2) Za rfl rfl (by decide) (by decide) hp519 rfl (by decide) (by decide)) (g := (mkF m 116 #[.val (.ref q0), .val (.int 9), .val (.ref b432)] [(.ref b432), (.ref b515), (.ref b515)])) rfl (by rw [hml]; rfl) (Steps.refl _) (a := b515) (argsL := [(.ref b432)]) (rest := [(.ref b515)]) (lenOf Dl rfl) rfl (by show 2 * 0 + _ ≤ _; exact Nat.le_of_eq rfl) (hb hby De) (fun _ _ => ⟨rfl, e515, (by decide : 2 + 1 ≤ _), (by decide : 13 + 9 ≤ _)⟩)
    dsimp only [Pt.U, Pt.locs, Pt.cells, Pt.slots] at X520 l520 y520 z520 st520 hQ520
    subst l520 y520 z520
    obtain ⟨rfl, N520q, Kc520, Ex520, Fc520, t520, kb520, g_t520, gs_t520, nx520, Fv520, Av520⟩ := hQ520
    have N520 := Fr.app N512 N520q
    have O520 := O515.keep Kc520 (allS g_b515 all0)
    have CR521 := CR516.trans (CHr.keep Kc520 (allS Sf515 all0) CR516.1)
    have K520 := K515.trans Kc520 (allS (Or.inr s_b515) all0)
    have s_t520 := Nat.le_trans K515.1 gs_t520
    have lt_t520 := Av520.lt
    have k522 : ∀ t, Va p e below m T520 119 #[.val (.ref q0), .val (.int 9), .val (.ref b432)] [(.ref b515)] t → Ab p e below m s₁ #[(.ref q0), (.int nq)] 3 t := by
      intro t k
      refine k517 t ?_
      refine st520.trans ?_
      exact k
    obtain ⟨fs, hr, hrun, hended, hRW⟩ := X520.leaveW hS (by exact (Nat.le_trans (Nat.le_trans (Nat.le_trans (Nat.le_trans (Nat.le_trans (Nat.le_trans (Nat.le_trans (Nat.le_trans (Nat.le_trans (Nat.le_trans (Nat.le_trans (Nat.le_trans (Nat.zero_le _) E432.1) (Keep.of_wr W440).1) (Keep.of_wr W449).1) (Keep.of_wr W458).1) (Keep.of_wr W467).1) (Keep.of_wr W476).1) (Keep.of_wr W485).1) (Keep.of_wr W494).1) (Keep.of_wr W503).1) (Keep.of_wr W512).1) E515.1) Kc520.1)) (v := some (.ref b515)) (fun h => by rw [Bd.returns] at h; cases h)
    refine hNG ⟨_, _, k522 _ ?_, hrun, hended, _, _, rfl, ?_, by rw [hh]; show CHr Z Ub s.vm h0 T520.vm T520.heap; exact CR521.trans (CHv.at X520 hZ (Vd hw) CR521.1), hRW.1, hRW.2.1, hRW.2.2.1, hRW.2.2.2.mono (by decide) (by decide)⟩
    · exact retOut X520 hx (t := (.object "java/lang/String")) Bd.returns rfl (Or.inr (Or.inr (Or.inr (Or.inr ⟨rfl, rfl, rfl⟩)))) (hb hby Ge) hr
    · show Km Z q0 kq nq c0 c1 c2 c3 c4 c5 c6 c7 c8 Ra Ya Pa Wa Ma Ga Ka Ba Ua Ha La Ia h0 n0 _ T520.heap _
      exact ⟨b515, t520, kb520, (9 : Int32), ((([c0, c1, c2, c3, c4, c5, c6, c7, c8] : List Int32)).map (fun c => c.toInt8.toInt32)).map Value.int, ([c0, c1, c2, c3, c4, c5, c6, c7, c8] : List Int32), rfl, N520, O520, K520, g_b515, s_b515, Ex520, Fc520, Fv520, Av520, StrChars.Road.codOf (cs := ([c0, c1, c2, c3, c4, c5, c6, c7, c8] : List Int32)) (n := 9) rfl (fun c hc => (hp519 c hc).2), hp519, (Nat.le_of_ble_eq_true rfl)⟩
theorem Lu (m : MethodId)   : entryFrame m #[] 0 = mkF m 0 #[] [] := by first | (simp [entryFrame, mkF, argsToLocals, Value.category]; done) | rfl
theorem Hp : decode prog_5_method_1_code 0 = .ok (.getstatic 13, 3) := by decide +kernel
theorem Ip : decode prog_5_method_1_code 3 = .ok (.invokevirtual 17, 3) := by decide +kernel
theorem Kp : decode prog_5_method_1_code 6 = .ok (.checkcast 18, 3) := by decide +kernel
theorem Lp : decode prog_5_method_1_code 9 = .ok (.areturn, 1) := by decide +kernel
theorem Ac : plainName "com/example/kwota/kwota/AdjustmentRequest$State" = true := by first | (simp [plainName, overriddenIn]; done) | decide +kernel
abbrev Mp : MethodName := ⟨"com/example/kwota/kwota/AdjustmentRequest$State", "values", "()[Lcom/example/kwota/kwota/AdjustmentRequest$State;"⟩
def Ut (Z : State) (Ra : Addr) (Ya : Addr) (Pa : Addr) (Wa : Addr) (Ma : Addr) (Ga : Addr) (Ka : Addr) (Ba : Addr) (Ua : Addr) (Ha : Addr) (La : Int32) (Ia : Value) (h0 : Heap) (n0 : Nat) (v : Option Value) (h : Heap) (L : List Loc) : Prop := ∃ (b : Addr) (k : ClassId), v = some (.ref b) ∧ Fr n0 L ∧ Old Z n0 h ∧ Keep h0 h [] ∧ n0 ≤ b ∧ h0.size ≤ b ∧ Arv Z h b k (.object "com/example/kwota/kwota/AdjustmentRequest$State") (3 : Int32) [(.ref Ra), (.ref Pa), (.ref Wa)] .null
set_option maxRecDepth 65536 in
set_option maxHeartbeats 40000000 in
theorem Pp (l : Launch) (Z : State) (a0 : Array Value) (hw : ∀ d ∈ tables_1, d.before a0 Z = true) (ws : List Jvm.Cond) (Ra : Addr) (Ya : Addr) (Pa : Addr) (Wa : Addr) (Ma : Addr) (Ga : Addr) (Ka : Addr) (Ba : Addr) (Ua : Addr) (Ha : Addr) (La : Int32) (Ia : Value) (h0 : Heap) (n0 : Nat) (O0 : Old Z n0 h0) (hE : EV Z Ra Ya Pa Wa Ma Ga Ka Ba Ua Ha La Ia) :
    MetFree l Mp (head1 (Jvm.Cond.code Mp prog_5_method_1_code 0 (some (.array (.object "com/example/kwota/kwota/AdjustmentRequest$State"))) :: ws) ({ frames := 1, cells := 1, slots := 3, locals := 14 } : Room)) (fun a U => a = #[] ∧ Z.Warmed39 U.vm ∧ U.heap = h0) (fun _ _ _ _ _ => True) (fun _ U o U' => ∃ v L, o = .returned v ∧ Ut Z Ra Ya Pa Wa Ma Ga Ka Ba Ua Ha La Ia h0 n0 v U'.heap L ∧ FrameEnd U o U' L ({ frames := 1, cells := 1, slots := 3, locals := 14 } : Room).cells ({ frames := 1, cells := 1, slots := 3, locals := 14 } : Room).slots) := by
  refine MetFree.of_bodySF (plainFor_of_name Ac) hisR ?_
  intro p e s m args below meth c s₁ Bd hml0 hP hK
  obtain ⟨rfl, hZ, hh⟩ := hP
  have hx := Bd.exec
  have hby := Bd.bytes
  have hml : c.maxLocals = 0 := hml0
  have hown : s.vm.findClass "com/example/kwota/kwota/AdjustmentRequest$State" = some m.cls := findClass_of_methodNamed Bd.named
  have hnm := (name_of_methodNamed Bd.named Bd.method).1
  have X00 : Stand p l e ({ frames := 1, cells := 1, slots := 3, locals := 14 } : Room) s m #[] below meth c s₁ [] 0 0 := Stand.of_body Bd
  have e00 : s₁.heap = h0 := by rw [← hh, Bd.state]; rfl
  have N00 := Fr.nil n0
  refine Classical.byContradiction fun hNG => ?_
  have K00 := Keep.refl h0 []
  have k00 : ∀ t, Va p e below m s₁ 0 #[] [] t → Ab p e below m s₁ #[] 0 t := fun t k => castTop (Lu m  ) k
  obtain ⟨Hh, Mh, Ih, Kh, Rg, Gh, Ki, Li, Dd, Zb, Lb, Mb, Ad, Bc, Pb, Rb, Pd, Hd, Dc, Gc, Bb, Za, Zc, Yc, Lh, Gb, Db, Hb⟩ := (id hE : EV Z Ra Ya Pa Wa Ma Ga Ka Ba Ua Ha La Ia)
  obtain ⟨kw_PENDING_word, Aw_PENDING_word⟩ := Gb.arv
  obtain ⟨kw_APPROVED_word, Aw_APPROVED_word⟩ := Db.arv
  obtain ⟨kw_DENIED_word, Aw_DENIED_word⟩ := Hb.arv
  obtain ⟨T10, X10, e10, st10⟩ := getS2 X00 hx hZ hown (host := "") (Or.inl (Da hw 92 rfl)) Via.refl e00 (Ih.ext O0.2) (g := (mkF m 0 #[] [])) rfl (hb hby Hp)
  obtain ⟨cl11, Ar11, Fc11, Sz11, Nn11, Hs11, Gf11⟩ := Bj.ext Lh O0.2
  obtain ⟨T12, h12, X12, e12, E12, A12, Ex12, st12⟩ := cloneA X10 hx hZ hown (Da hw 94 rfl) (Da hw 95 rfl) (Da hw 99 rfl) (Da hw 97 rfl) (Da hw 98 rfl) (Da hw 100 rfl) e10 Ar11 (Kh.ext O0.2) Fc11 (g := (mkF m 3 #[] [(.ref Ya)])) rfl (by rw [hml]; rfl) rfl (hb hby Ip) (by decide) (W := 0) (cap := 3) (by show 2 * 0 + _ ≤ _; exact Nat.le_of_eq rfl) (by decide) (by rw [Sz11]; decide) (by decide) (by decide)
  obtain ⟨b12, g12⟩ : ∃ z, z = h0.size := ⟨_, rfl⟩
  rw [← g12] at A12 Ex12 st12
  have O12 := O0.ext E12
  have g_b12 : n0 ≤ b12 := Nat.le_trans (Nat.le_of_eq O0.1.symm) (Nat.le_trans O0.2.1 (Nat.le_of_eq g12.symm))
  have s_b12 : h0.size ≤ b12 := Nat.le_trans K00.1 (Nat.le_of_eq g12.symm)
  have K12 := K00.ext E12
  have V12 : Arv Z h12 b12 cl11.cls (.object "com/example/kwota/kwota/AdjustmentRequest$State") (3 : Int32) [(.ref Ra), (.ref Pa), (.ref Wa)] .null := ⟨cloneOf cl11, A12, rfl, Sz11, Nn11, Hs11, Gf11⟩
  have lt_b12 := V12.lt
  obtain ⟨T13, X13, e13, st13⟩ := castY X12 hx hZ hown (Da hw 104 rfl) e12 (Ins.self Ex12) (g := (mkF m 6 #[] [(.ref b12)])) rfl rfl (hb hby Kp)
  have k14 : ∀ t, Va p e below m T13 9 #[] [(.ref b12)] t → Ab p e below m s₁ #[] 0 t := by
    intro t k
    refine k00 t ?_
    refine st10 _ ?_
    refine st12 _ ?_
    refine st13 _ ?_
    exact k
  obtain ⟨fs, hr, hrun, hended, hW, hsame⟩ := X13.leave (v := some (.ref b12)) (fun h => by rw [Bd.returns] at h; cases h)
  refine hNG ⟨_, _, k14 _ ?_, hrun, hended, _, _, rfl, ?_, ⟨_, rfl⟩, hW, hsame.mono (by decide) (by decide)⟩
  · exact retOut X13 hx (t := (.array (.object "com/example/kwota/kwota/AdjustmentRequest$State"))) Bd.returns rfl (Or.inr (Or.inr (Or.inr (Or.inr ⟨rfl, rfl, rfl⟩)))) (hb hby Lp) hr
  · show Ut Z Ra Ya Pa Wa Ma Ga Ka Ba Ua Ha La Ia h0 n0 _ T13.heap _
    rw [e13]
    exact ⟨b12, cl11.cls, rfl, N00, O12, K12, g_b12, s_b12, V12⟩
theorem Hq (m : MethodId) (x0 : Addr)  : entryFrame m #[(.ref x0), .null] 3 = mkF m 0 #[.val (.ref x0), .val .null, .unset] [] := by first | (simp [entryFrame, mkF, argsToLocals, Value.category]; done) | rfl
theorem Zj : decode jdk_42_method_66_code 0 = .ok (.aload_n 0, 1) := by decide +kernel
theorem Dk : decode jdk_42_method_66_code 1 = .ok (.aload_n 1, 1) := by decide +kernel
theorem Gk : decode jdk_42_method_66_code 2 = .ok (.if_acmp .ne 5, 3) := by decide +kernel
theorem Hk : decode jdk_42_method_66_code 7 = .ok (.aload_n 1, 1) := by decide +kernel
theorem Ik : decode jdk_42_method_66_code 8 = .ok (.instanceof 10, 3) := by decide +kernel
theorem Vj : decode jdk_42_method_66_code 11 = .ok (.ifCond .eq 43, 3) := by decide +kernel
theorem Wj : decode jdk_42_method_66_code 54 = .ok (.iconst 0, 1) := by decide +kernel
theorem Yj : decode jdk_42_method_66_code 55 = .ok (.ireturn, 1) := by decide +kernel
abbrev Kd : MethodName := ⟨"java/lang/String", "equals", "(Ljava/lang/Object;)Z"⟩
def Yn (Z : State) (Ra : Addr) (Ya : Addr) (Pa : Addr) (Wa : Addr) (Ma : Addr) (Ga : Addr) (Ka : Addr) (Ba : Addr) (Ua : Addr) (Ha : Addr) (La : Int32) (Ia : Value) (h0 : Heap) (n0 : Nat) (v : Option Value) (h : Heap) (L : List Loc) : Prop := v = some (.int 0) ∧ Fr n0 L ∧ h = h0
set_option maxRecDepth 65536 in
set_option maxHeartbeats 40000000 in
theorem Iq (l : Launch) (Z : State) (a0 : Array Value) (hw : ∀ d ∈ tables_1, d.before a0 Z = true) (ws : List Jvm.Cond) (Ra : Addr) (Ya : Addr) (Pa : Addr) (Wa : Addr) (Ma : Addr) (Ga : Addr) (Ka : Addr) (Ba : Addr) (Ua : Addr) (Ha : Addr) (La : Int32) (Ia : Value) (h0 : Heap) (n0 : Nat) (O0 : Old Z n0 h0) (hE : EV Z Ra Ya Pa Wa Ma Ga Ka Ba Ua Ha La Ia) :
    MetFree l Kd (head1 (Jvm.Cond.code Kd jdk_42_method_66_code 3 (some .boolean) :: ws) ({ frames := 0, cells := 0, slots := 0, locals := 0 } : Room)) (fun a U => a = #[(.ref Ma), .null] ∧ Z.Warmed39 U.vm ∧ U.heap = h0) (fun _ _ _ _ _ => True) (fun _ U o U' => ∃ v L, o = .returned v ∧ Yn Z Ra Ya Pa Wa Ma Ga Ka Ba Ua Ha La Ia h0 n0 v U'.heap L ∧ FrameEnd U o U' L ({ frames := 0, cells := 0, slots := 0, locals := 0 } : Room).cells ({ frames := 0, cells := 0, slots := 0, locals := 0 } : Room).slots) := by
  refine MetFree.of_bodySF (plainFor_of_name Dj) hisR ?_
  intro p e s m args below meth c s₁ Bd hml0 hP hK
  obtain ⟨rfl, hZ, hh⟩ := hP
  have hx := Bd.exec
  have hby := Bd.bytes
  have hml : c.maxLocals = 3 := hml0
  have hown : s.vm.findClass "java/lang/String" = some m.cls := findClass_of_methodNamed Bd.named
  have hnm := (name_of_methodNamed Bd.named Bd.method).1
  have X00 : Stand p l e ({ frames := 0, cells := 0, slots := 0, locals := 0 } : Room) s m #[(.ref Ma), .null] below meth c s₁ [] 0 0 := Stand.of_body Bd
  have e00 : s₁.heap = h0 := by rw [← hh, Bd.state]; rfl
  have N00 := Fr.nil n0
  refine Classical.byContradiction fun hNG => ?_
  have K00 := Keep.refl h0 []
  have k00 : ∀ t, Va p e below m s₁ 0 #[.val (.ref Ma), .val .null, .unset] [] t → Ab p e below m s₁ #[(.ref Ma), .null] 3 t := fun t k => castTop (Hq m Ma ) k
  obtain ⟨Hh, Mh, Ih, Kh, Rg, Gh, Ki, Li, Dd, Zb, Lb, Mb, Ad, Bc, Pb, Rb, Pd, Hd, Dc, Gc, Bb, Za, Zc, Yc, Lh, Gb, Db, Hb⟩ := (id hE : EV Z Ra Ya Pa Wa Ma Ga Ka Ba Ua Ha La Ia)
  obtain ⟨kw_PENDING_word, Aw_PENDING_word⟩ := Gb.arv
  obtain ⟨kw_APPROVED_word, Aw_APPROVED_word⟩ := Db.arv
  obtain ⟨kw_DENIED_word, Aw_DENIED_word⟩ := Hb.arv
  have k10 : ∀ t, Va p e below m s₁ 55 #[.val (.ref Ma), .val .null, .unset] [(.int 0)] t → Ab p e below m s₁ #[(.ref Ma), .null] 3 t := by
    intro t k
    refine k00 t ?_
    refine XS.aloadN X00.here hx rfl (hb hby Zj) rfl rfl ?_
    refine XS.aloadN X00.here hx rfl (hb hby Dk) rfl rfl ?_
    refine Jvm.RoadKit.acmp (g := (mkF m 2 #[.val (.ref Ma), .val .null, .unset] [.null, (.ref Ma)])) X00 hx rfl rfl rfl (pc0 := 2) (pc' := 7) (same := false) rfl (hb hby Gk) rfl (decide_eq_false nofun) (by decide) (by decide) ?_
    refine XS.aloadN X00.here hx rfl (hb hby Hk) rfl rfl ?_
    refine X00.instanceofNull hx (g := (mkF m 8 #[.val (.ref Ma), .val .null, .unset] [.null])) rfl rfl (hb hby Ik) _ ?_
    refine XS.ifYes X00.here hx rfl (pc0 := 11) (pc' := 54) rfl (hb hby Vj) rfl ((if0 _ _).trans (teq (by decide : (0 : Int32) = (0 : Int32))).1) (by decide) (by decide) ?_
    refine XS.iconst X00.here hx rfl (hb hby Wj) ?_
    exact k
  obtain ⟨fs, hr, hrun, hended, hW, hsame⟩ := X00.leave (v := some (.int 0)) (fun h => by rw [Bd.returns] at h; cases h)
  refine hNG ⟨_, _, k10 _ ?_, hrun, hended, _, _, rfl, ?_, ⟨_, rfl⟩, hW, hsame.mono (by decide) (by decide)⟩
  · exact retN X00 hx (t := .boolean) Bd.returns (by simp) (hb hby Yj) hr
  · show Yn Z Ra Ya Pa Wa Ma Ga Ka Ba Ua Ha La Ia h0 n0 _ s₁.heap _
    rw [e00]
    exact ⟨rfl, N00, rfl⟩
theorem Rp (m : MethodId) (x0 : Addr)  : entryFrame m #[(.ref x0), .null] 3 = mkF m 0 #[.val (.ref x0), .val .null, .unset] [] := by first | (simp [entryFrame, mkF, argsToLocals, Value.category]; done) | rfl
def Mm (Z : State) (Ra : Addr) (Ya : Addr) (Pa : Addr) (Wa : Addr) (Ma : Addr) (Ga : Addr) (Ka : Addr) (Ba : Addr) (Ua : Addr) (Ha : Addr) (La : Int32) (Ia : Value) (h0 : Heap) (n0 : Nat) (v : Option Value) (h : Heap) (L : List Loc) : Prop := v = some (.int 0) ∧ Fr n0 L ∧ h = h0
set_option maxRecDepth 65536 in
set_option maxHeartbeats 40000000 in
theorem Up (l : Launch) (Z : State) (a0 : Array Value) (hw : ∀ d ∈ tables_1, d.before a0 Z = true) (ws : List Jvm.Cond) (Ra : Addr) (Ya : Addr) (Pa : Addr) (Wa : Addr) (Ma : Addr) (Ga : Addr) (Ka : Addr) (Ba : Addr) (Ua : Addr) (Ha : Addr) (La : Int32) (Ia : Value) (h0 : Heap) (n0 : Nat) (O0 : Old Z n0 h0) (hE : EV Z Ra Ya Pa Wa Ma Ga Ka Ba Ua Ha La Ia) :
    MetFree l Kd (head1 (Jvm.Cond.code Kd jdk_42_method_66_code 3 (some .boolean) :: ws) ({ frames := 0, cells := 0, slots := 0, locals := 0 } : Room)) (fun a U => a = #[(.ref Ka), .null] ∧ Z.Warmed39 U.vm ∧ U.heap = h0) (fun _ _ _ _ _ => True) (fun _ U o U' => ∃ v L, o = .returned v ∧ Mm Z Ra Ya Pa Wa Ma Ga Ka Ba Ua Ha La Ia h0 n0 v U'.heap L ∧ FrameEnd U o U' L ({ frames := 0, cells := 0, slots := 0, locals := 0 } : Room).cells ({ frames := 0, cells := 0, slots := 0, locals := 0 } : Room).slots) := by
  refine MetFree.of_bodySF (plainFor_of_name Dj) hisR ?_
  intro p e s m args below meth c s₁ Bd hml0 hP hK
  obtain ⟨rfl, hZ, hh⟩ := hP
  have hx := Bd.exec
  have hby := Bd.bytes
  have hml : c.maxLocals = 3 := hml0
  have hown : s.vm.findClass "java/lang/String" = some m.cls := findClass_of_methodNamed Bd.named
  have hnm := (name_of_methodNamed Bd.named Bd.method).1
  have X00 : Stand p l e ({ frames := 0, cells := 0, slots := 0, locals := 0 } : Room) s m #[(.ref Ka), .null] below meth c s₁ [] 0 0 := Stand.of_body Bd
  have e00 : s₁.heap = h0 := by rw [← hh, Bd.state]; rfl
  have N00 := Fr.nil n0
  refine Classical.byContradiction fun hNG => ?_
  have K00 := Keep.refl h0 []
  have k00 : ∀ t, Va p e below m s₁ 0 #[.val (.ref Ka), .val .null, .unset] [] t → Ab p e below m s₁ #[(.ref Ka), .null] 3 t := fun t k => castTop (Rp m Ka ) k
  obtain ⟨Hh, Mh, Ih, Kh, Rg, Gh, Ki, Li, Dd, Zb, Lb, Mb, Ad, Bc, Pb, Rb, Pd, Hd, Dc, Gc, Bb, Za, Zc, Yc, Lh, Gb, Db, Hb⟩ := (id hE : EV Z Ra Ya Pa Wa Ma Ga Ka Ba Ua Ha La Ia)
  obtain ⟨kw_PENDING_word, Aw_PENDING_word⟩ := Gb.arv
  obtain ⟨kw_APPROVED_word, Aw_APPROVED_word⟩ := Db.arv
  obtain ⟨kw_DENIED_word, Aw_DENIED_word⟩ := Hb.arv
  have k10 : ∀ t, Va p e below m s₁ 55 #[.val (.ref Ka), .val .null, .unset] [(.int 0)] t → Ab p e below m s₁ #[(.ref Ka), .null] 3 t := by
    intro t k
    refine k00 t ?_
    refine XS.aloadN X00.here hx rfl (hb hby Zj) rfl rfl ?_
    refine XS.aloadN X00.here hx rfl (hb hby Dk) rfl rfl ?_
    refine Jvm.RoadKit.acmp (g := (mkF m 2 #[.val (.ref Ka), .val .null, .unset] [.null, (.ref Ka)])) X00 hx rfl rfl rfl (pc0 := 2) (pc' := 7) (same := false) rfl (hb hby Gk) rfl (decide_eq_false nofun) (by decide) (by decide) ?_
    refine XS.aloadN X00.here hx rfl (hb hby Hk) rfl rfl ?_
    refine X00.instanceofNull hx (g := (mkF m 8 #[.val (.ref Ka), .val .null, .unset] [.null])) rfl rfl (hb hby Ik) _ ?_
    refine XS.ifYes X00.here hx rfl (pc0 := 11) (pc' := 54) rfl (hb hby Vj) rfl ((if0 _ _).trans (teq (by decide : (0 : Int32) = (0 : Int32))).1) (by decide) (by decide) ?_
    refine XS.iconst X00.here hx rfl (hb hby Wj) ?_
    exact k
  obtain ⟨fs, hr, hrun, hended, hW, hsame⟩ := X00.leave (v := some (.int 0)) (fun h => by rw [Bd.returns] at h; cases h)
  refine hNG ⟨_, _, k10 _ ?_, hrun, hended, _, _, rfl, ?_, ⟨_, rfl⟩, hW, hsame.mono (by decide) (by decide)⟩
  · exact retN X00 hx (t := .boolean) Bd.returns (by simp) (hb hby Yj) hr
  · show Mm Z Ra Ya Pa Wa Ma Ga Ka Ba Ua Ha La Ia h0 n0 _ s₁.heap _
    rw [e00]
    exact ⟨rfl, N00, rfl⟩
theorem Gs (m : MethodId) (x0 : Addr)  : entryFrame m #[(.ref x0), .null] 3 = mkF m 0 #[.val (.ref x0), .val .null, .unset] [] := by first | (simp [entryFrame, mkF, argsToLocals, Value.category]; done) | rfl
def Po (Z : State) (Ra : Addr) (Ya : Addr) (Pa : Addr) (Wa : Addr) (Ma : Addr) (Ga : Addr) (Ka : Addr) (Ba : Addr) (Ua : Addr) (Ha : Addr) (La : Int32) (Ia : Value) (h0 : Heap) (n0 : Nat) (v : Option Value) (h : Heap) (L : List Loc) : Prop := v = some (.int 0) ∧ Fr n0 L ∧ h = h0
set_option maxRecDepth 65536 in
set_option maxHeartbeats 40000000 in
theorem Hs (l : Launch) (Z : State) (a0 : Array Value) (hw : ∀ d ∈ tables_1, d.before a0 Z = true) (ws : List Jvm.Cond) (Ra : Addr) (Ya : Addr) (Pa : Addr) (Wa : Addr) (Ma : Addr) (Ga : Addr) (Ka : Addr) (Ba : Addr) (Ua : Addr) (Ha : Addr) (La : Int32) (Ia : Value) (h0 : Heap) (n0 : Nat) (O0 : Old Z n0 h0) (hE : EV Z Ra Ya Pa Wa Ma Ga Ka Ba Ua Ha La Ia) :
    MetFree l Kd (head1 (Jvm.Cond.code Kd jdk_42_method_66_code 3 (some .boolean) :: ws) ({ frames := 0, cells := 0, slots := 0, locals := 0 } : Room)) (fun a U => a = #[(.ref Ua), .null] ∧ Z.Warmed39 U.vm ∧ U.heap = h0) (fun _ _ _ _ _ => True) (fun _ U o U' => ∃ v L, o = .returned v ∧ Po Z Ra Ya Pa Wa Ma Ga Ka Ba Ua Ha La Ia h0 n0 v U'.heap L ∧ FrameEnd U o U' L ({ frames := 0, cells := 0, slots := 0, locals := 0 } : Room).cells ({ frames := 0, cells := 0, slots := 0, locals := 0 } : Room).slots) := by
  refine MetFree.of_bodySF (plainFor_of_name Dj) hisR ?_
  intro p e s m args below meth c s₁ Bd hml0 hP hK
  obtain ⟨rfl, hZ, hh⟩ := hP
  have hx := Bd.exec
  have hby := Bd.bytes
  have hml : c.maxLocals = 3 := hml0
  have hown : s.vm.findClass "java/lang/String" = some m.cls := findClass_of_methodNamed Bd.named
  have hnm := (name_of_methodNamed Bd.named Bd.method).1
  have X00 : Stand p l e ({ frames := 0, cells := 0, slots := 0, locals := 0 } : Room) s m #[(.ref Ua), .null] below meth c s₁ [] 0 0 := Stand.of_body Bd
  have e00 : s₁.heap = h0 := by rw [← hh, Bd.state]; rfl
  have N00 := Fr.nil n0
  refine Classical.byContradiction fun hNG => ?_
  have K00 := Keep.refl h0 []
  have k00 : ∀ t, Va p e below m s₁ 0 #[.val (.ref Ua), .val .null, .unset] [] t → Ab p e below m s₁ #[(.ref Ua), .null] 3 t := fun t k => castTop (Gs m Ua ) k
  obtain ⟨Hh, Mh, Ih, Kh, Rg, Gh, Ki, Li, Dd, Zb, Lb, Mb, Ad, Bc, Pb, Rb, Pd, Hd, Dc, Gc, Bb, Za, Zc, Yc, Lh, Gb, Db, Hb⟩ := (id hE : EV Z Ra Ya Pa Wa Ma Ga Ka Ba Ua Ha La Ia)
  obtain ⟨kw_PENDING_word, Aw_PENDING_word⟩ := Gb.arv
  obtain ⟨kw_APPROVED_word, Aw_APPROVED_word⟩ := Db.arv
  obtain ⟨kw_DENIED_word, Aw_DENIED_word⟩ := Hb.arv
  have k10 : ∀ t, Va p e below m s₁ 55 #[.val (.ref Ua), .val .null, .unset] [(.int 0)] t → Ab p e below m s₁ #[(.ref Ua), .null] 3 t := by
    intro t k
    refine k00 t ?_
    refine XS.aloadN X00.here hx rfl (hb hby Zj) rfl rfl ?_
    refine XS.aloadN X00.here hx rfl (hb hby Dk) rfl rfl ?_
    refine Jvm.RoadKit.acmp (g := (mkF m 2 #[.val (.ref Ua), .val .null, .unset] [.null, (.ref Ua)])) X00 hx rfl rfl rfl (pc0 := 2) (pc' := 7) (same := false) rfl (hb hby Gk) rfl (decide_eq_false nofun) (by decide) (by decide) ?_
    refine XS.aloadN X00.here hx rfl (hb hby Hk) rfl rfl ?_
    refine X00.instanceofNull hx (g := (mkF m 8 #[.val (.ref Ua), .val .null, .unset] [.null])) rfl rfl (hb hby Ik) _ ?_
    refine XS.ifYes X00.here hx rfl (pc0 := 11) (pc' := 54) rfl (hb hby Vj) rfl ((if0 _ _).trans (teq (by decide : (0 : Int32) = (0 : Int32))).1) (by decide) (by decide) ?_
    refine XS.iconst X00.here hx rfl (hb hby Wj) ?_
    exact k
  obtain ⟨fs, hr, hrun, hended, hW, hsame⟩ := X00.leave (v := some (.int 0)) (fun h => by rw [Bd.returns] at h; cases h)
  refine hNG ⟨_, _, k10 _ ?_, hrun, hended, _, _, rfl, ?_, ⟨_, rfl⟩, hW, hsame.mono (by decide) (by decide)⟩
  · exact retN X00 hx (t := .boolean) Bd.returns (by simp) (hb hby Yj) hr
  · show Po Z Ra Ya Pa Wa Ma Ga Ka Ba Ua Ha La Ia h0 n0 _ s₁.heap _
    rw [e00]
    exact ⟨rfl, N00, rfl⟩
theorem Mu (m : MethodId) (x0 : Addr)  : entryFrame m #[(.ref x0)] 5 = mkF m 0 #[.val (.ref x0), .unset, .unset, .unset, .unset] [] := by first | (simp [entryFrame, mkF, argsToLocals, Value.category]; done) | rfl
theorem Zh : decode prog_5_method_5_code 0 = .ok (.invokestatic 36, 3) := by decide +kernel
theorem Hc : parseMethodDescriptor "()[Lcom/example/kwota/kwota/AdjustmentRequest$State;" = some ⟨[], some (.array (.object "com/example/kwota/kwota/AdjustmentRequest$State"))⟩ := by decide +kernel
theorem Ai : decode prog_5_method_5_code 3 = .ok (.astore_n 1, 1) := by decide +kernel
theorem Bi : decode prog_5_method_5_code 4 = .ok (.aload_n 1, 1) := by decide +kernel
theorem Di : decode prog_5_method_5_code 5 = .ok (.arraylength, 1) := by decide +kernel
theorem Gi : decode prog_5_method_5_code 6 = .ok (.istore_n 2, 1) := by decide +kernel
theorem Hi : decode prog_5_method_5_code 7 = .ok (.iconst 0, 1) := by decide +kernel
theorem Ii : decode prog_5_method_5_code 8 = .ok (.istore_n 3, 1) := by decide +kernel
theorem Yb : decode prog_5_method_5_code 9 = .ok (.iload_n 3, 1) := by decide +kernel
theorem Vb : decode prog_5_method_5_code 10 = .ok (.iload_n 2, 1) := by decide +kernel
theorem Wb : decode prog_5_method_5_code 11 = .ok (.if_icmp .ge 29, 3) := by decide +kernel
theorem Ic : decode prog_5_method_5_code 14 = .ok (.aload_n 1, 1) := by decide +kernel
theorem Kc : decode prog_5_method_5_code 15 = .ok (.iload_n 3, 1) := by decide +kernel
theorem Lc : decode prog_5_method_5_code 16 = .ok (.aaload, 1) := by decide +kernel
theorem Mc : decode prog_5_method_5_code 17 = .ok (.astore 4, 2) := by decide +kernel
theorem Pc : decode prog_5_method_5_code 19 = .ok (.aload 4, 2) := by decide +kernel
theorem Rc : decode prog_5_method_5_code 21 = .ok (.getfield 32, 3) := by decide +kernel
theorem Uc : decode prog_5_method_5_code 24 = .ok (.aload_n 0, 1) := by decide +kernel
theorem Vc : decode prog_5_method_5_code 25 = .ok (.invokevirtual 40, 3) := by decide +kernel
theorem Ib : parseMethodDescriptor "(Ljava/lang/Object;)Z" = some ⟨[(.object "java/lang/Object")], some .boolean⟩ := by decide +kernel
theorem Wc : decode prog_5_method_5_code 28 = .ok (.ifCond .eq 6, 3) := by decide +kernel
theorem Kk : decode prog_5_method_5_code 31 = .ok (.aload 4, 2) := by decide +kernel
theorem Lk : decode prog_5_method_5_code 33 = .ok (.areturn, 1) := by decide +kernel
abbrev Mk : MethodName := ⟨"com/example/kwota/kwota/AdjustmentRequest$State", "named", "(Ljava/lang/String;)Lcom/example/kwota/kwota/AdjustmentRequest$State;"⟩
def Vt (Z : State) (s0 : Addr) (v0 : Addr) (kv : ClassId) (z0 : Int32) (vs0 : List Value) (cs0 : List Int32) (Ra : Addr) (Ya : Addr) (Pa : Addr) (Wa : Addr) (Ma : Addr) (Ga : Addr) (Ka : Addr) (Ba : Addr) (Ua : Addr) (Ha : Addr) (La : Int32) (Ia : Value) (h0 : Heap) (n0 : Nat) (v : Option Value) (h : Heap) (L : List Loc) : Prop := v = some (.ref Ra) ∧ Fr n0 L ∧ Old Z n0 h ∧ Keep h0 h []
set_option maxRecDepth 65536 in
set_option maxHeartbeats 40000000 in
theorem Pu (l : Launch) (Z : State) (a0 : Array Value) (hw : ∀ d ∈ tables_1, d.before a0 Z = true) (ws : List Jvm.Cond) (s0 : Addr) (v0 : Addr) (kv : ClassId) (z0 : Int32) (vs0 : List Value) (cs0 : List Int32) (Ra : Addr) (Ya : Addr) (Pa : Addr) (Wa : Addr) (Ma : Addr) (Ga : Addr) (Ka : Addr) (Ba : Addr) (Ua : Addr) (Ha : Addr) (La : Int32) (Ia : Value) (h0 : Heap) (n0 : Nat) (O0 : Old Z n0 h0) (hE : EV Z Ra Ya Pa Wa Ma Ga Ka Ba Ua Ha La Ia) (P0 : Exa Z h0 s0 "java/lang/String") (P1 : Fld Z h0 s0 "java/lang/String" "coder" "B" (.int 0)) (P2 : Fld Z h0 s0 "java/lang/String" "value" "[B" (.ref v0)) (P3 : Arv Z h0 v0 kv .byte z0 vs0 (.int 0)) (hcd : StrChars.Road.CodA cs0 0 z0 vs0) (hbd : ∀ c ∈ cs0, ¬ c < 0 ∧ ¬ (255 : Int32) < c) (hl2 : cs0.length ≤ 4000) (m0 : cs0 = ([(112 : Int32), (101 : Int32), (110 : Int32), (100 : Int32), (105 : Int32), (110 : Int32), (103 : Int32)] : List Int32)) :
    MetFree l Mk (head1 (Jvm.Cond.code Mk prog_5_method_5_code 5 (some (.object "com/example/kwota/kwota/AdjustmentRequest$State")) :: ws) ({ frames := 2, cells := 1, slots := 3, locals := 28 } : Room)) (fun a U => a = #[(.ref s0)] ∧ Z.Warmed39 U.vm ∧ U.heap = h0) (fun _ _ _ _ _ => True) (fun _ U o U' => ∃ v L, o = .returned v ∧ Vt Z s0 v0 kv z0 vs0 cs0 Ra Ya Pa Wa Ma Ga Ka Ba Ua Ha La Ia h0 n0 v U'.heap L ∧ FrameEnd U o U' L ({ frames := 2, cells := 1, slots := 3, locals := 28 } : Room).cells ({ frames := 2, cells := 1, slots := 3, locals := 28 } : Room).slots) := by
  refine MetFree.of_bodySF (plainFor_of_name Ac) hisR ?_
  intro p e s m args below meth c s₁ Bd hml0 hP hK
  obtain ⟨rfl, hZ, hh⟩ := hP
  have hx := Bd.exec
  have hby := Bd.bytes
  have hml : c.maxLocals = 5 := hml0
  have hown : s.vm.findClass "com/example/kwota/kwota/AdjustmentRequest$State" = some m.cls := findClass_of_methodNamed Bd.named
  have hnm := (name_of_methodNamed Bd.named Bd.method).1
  have X00 : Stand p l e ({ frames := 2, cells := 1, slots := 3, locals := 28 } : Room) s m #[(.ref s0)] below meth c s₁ [] 0 0 := Stand.of_body Bd
  have e00 : s₁.heap = h0 := by rw [← hh, Bd.state]; rfl
  have N00 := Fr.nil n0
  refine Classical.byContradiction fun hNG => ?_
  have K00 := Keep.refl h0 []
  have k00 : ∀ t, Va p e below m s₁ 0 #[.val (.ref s0), .unset, .unset, .unset, .unset] [] t → Ab p e below m s₁ #[(.ref s0)] 5 t := fun t k => castTop (Mu m s0 ) k
  obtain ⟨Hh, Mh, Ih, Kh, Rg, Gh, Ki, Li, Dd, Zb, Lb, Mb, Ad, Bc, Pb, Rb, Pd, Hd, Dc, Gc, Bb, Za, Zc, Yc, Lh, Gb, Db, Hb⟩ := (id hE : EV Z Ra Ya Pa Wa Ma Ga Ka Ba Ua Ha La Ia)
  obtain ⟨kw_PENDING_word, Aw_PENDING_word⟩ := Gb.arv
  obtain ⟨kw_APPROVED_word, Aw_APPROVED_word⟩ := Db.arv
  obtain ⟨kw_DENIED_word, Aw_DENIED_word⟩ := Hb.arv
  obtain ⟨_, _, ⟨T10, L10, k10, n10⟩, -, X10, ⟨Lc10, hQ10, l10, y10, z10⟩, st10⟩ := Jvm.LawKit.callS X00 hx (y := Mp) hown (mvT hZ (Da hw 89 rfl)) (mvT hZ (Da hw 90 rfl)) (mvT hZ (Da hw 84 rfl)) (mvT hZ (Da hw 91 rfl)) (by decide) (backOf (W := 0) (Pp l Z a0 hw []  _ _ _ _ _ _ _ _ _ _ _ _ h0 n0 O0 hE  ) hZ (Da hw 91 rfl) (Da hw 84 rfl) (by decide) (by decide)) (g := (mkF m 0 #[.val (.ref s0), .unset, .unset, .unset, .unset] [])) rfl (by rw [hml]; rfl) (argsL := []) (rest := []) (lenOf Hc rfl) rfl (by show 2 * 0 + _ ≤ _; exact Nat.le_of_eq rfl) (hb hby Zh) (fun _ _ => ⟨rfl, e00, (by decide : 0 + 1 ≤ _), (by decide : 0 + 3 ≤ _)⟩)
  dsimp only [Pt.U, Pt.locs, Pt.cells, Pt.slots] at X10 l10 y10 z10 st10 hQ10
  subst l10 y10 z10
  obtain ⟨b10, k10, rfl, N10q, O10, Kc10, g_b10, gs_b10, F10_0⟩ := hQ10
  have N10 := Fr.app N00 N10q
  have K10 := K00.trans Kc10 (fun x hx => nomatch hx)
  have s_b10 := Nat.le_trans K00.1 gs_b10
  have lt_b10 := F10_0.lt
  obtain ⟨cl11, Ar11, q11, Sz11, Nn11, Hs11, Gf11⟩ := id F10_0
  obtain ⟨cl12, Ar12, q12, Sz12, Nn12, Hs12, Gf12⟩ := id F10_0
  have hin13 : ¬ ((0 : Int32) < 0 ∨ cl12.slots.size ≤ ((0 : Int32)).toNatClampNeg) := inb_of Sz12 ⟨by decide, by decide⟩
  have hat14 : cl12.slots[((0 : Int32)).toNatClampNeg]? = some (.ref Ra) := Hs12.at hin13 rfl
  obtain ⟨T15, X15, e15, st15⟩ := getF X10 hx hZ hown (host := "") (Or.inl (Da hw 106 rfl)) Via.refl rfl (Dd.ext O10.2) (g := (mkF m 21 #[.val (.ref s0), .val (.ref b10), .val (.int 3), .val (.int 0), .val (.ref Ra)] [(.ref Ra)])) rfl rfl (hb hby Rc)
  have f16 := (P0.keep Kc10)
  have f17 := (P2.keep Kc10 List.not_mem_nil)
  have f18 := (P1.keep Kc10 List.not_mem_nil)
  have f19 := (P3.keep Kc10 List.not_mem_nil)
  obtain ⟨cq20, kq20, q20a, q20b, q20c⟩ := isOf hZ e15 (Zb.ext O10.2)
  obtain ⟨_, _, ⟨T20, L20, k20, n20⟩, -, X20, ⟨Lc20, hQ20, l20, y20, z20⟩, st20⟩ := X15.virtualBack hx (y := Kd) (z := Kd) hown (mvT hZ (Da hw 108 rfl)) (mvT hZ (Da hw 75 rfl)) (notFace_of_selects (args := #[]) (mvT hZ (Da hw 77 rfl))) (mvT hZ (Da hw 77 rfl)) (mvT hZ (Da hw 76 rfl)) (by decide) (StrChars.Road.eqW (W := 0) hZ (Gj hw) (kI := 4) (Da hw 8 rfl) (Zb.ext O10.2) (Mb.ext O10.2) (Lb.ext O10.2) (Aw_PENDING_word.ext O10.2) Hj (Ie _ Mi) (Nat.le_of_ble_eq_true rfl) f16 f17 f18 f19 hcd (Ie _ hbd) hl2 (Bb.ext O10.2) Za (by decide) (by decide)) q20a q20c (g := (mkF m 25 #[.val (.ref s0), .val (.ref b10), .val (.int 3), .val (.int 0), .val (.ref Ra)] [(.ref s0), (.ref Ma)])) rfl (by rw [hml]; rfl) (Steps.refl _) (argsL := [(.ref s0)]) (rest := []) (lenOf Ib rfl) rfl (by show 2 * 0 + _ ≤ _; exact Nat.le_of_eq rfl) (hb hby Vc) (fun _ _ => ⟨rfl, e15, (by decide : 1 + 0 ≤ _), (by decide : 3 + 0 ≤ _)⟩)
  dsimp only [Pt.U, Pt.locs, Pt.cells, Pt.slots] at X20 l20 y20 z20 st20 hQ20
  subst l20 y20 z20
  obtain ⟨hcase20, rfl, hp20⟩ := hQ20
  have N20q : Fr n0 ([] : List Loc) := Fr.nil n0
  have hv20 : _ = some (Value.int 1) := hcase20.elim (fun q => q.1) (fun q => absurd m0.symm q.2)
  subst hv20
  have N20 := Fr.app N10 N20q
  have k21 : ∀ t, Va p e below m T20 33 #[.val (.ref s0), .val (.ref b10), .val (.int 3), .val (.int 0), .val (.ref Ra)] [(.ref Ra)] t → Ab p e below m s₁ #[(.ref s0)] 5 t := by
    intro t k
    refine k00 t ?_
    refine st10 _ ?_
    refine XS.astoreN X10.here hx rfl (hb hby Ai) rfl rfl (l' := #[.val (.ref s0), .val (.ref b10), .unset, .unset, .unset]) rfl ?_
    refine XS.aloadN X10.here hx rfl (hb hby Bi) rfl rfl ?_
    refine X10.arraylength hx (by exact Ar11.1) (State.isArrayOf_alike hZ.alike Ar11.2.1) (g := (mkF m 5 #[.val (.ref s0), .val (.ref b10), .unset, .unset, .unset] [(.ref b10)])) rfl rfl (hb hby Di) _ ?_
    rw [len_of Sz11 Nn11]
    refine XS.istoreN X10.here hx rfl (hb hby Gi) rfl (l' := #[.val (.ref s0), .val (.ref b10), .val (.int 3), .unset, .unset]) rfl ?_
    refine XS.iconst X10.here hx rfl (hb hby Hi) ?_
    refine XS.istoreN X10.here hx rfl (hb hby Ii) rfl (l' := #[.val (.ref s0), .val (.ref b10), .val (.int 3), .val (.int 0), .unset]) rfl ?_
    refine XS.iloadN X10.here hx rfl (hb hby Yb) rfl ?_
    show Va p e below m T10 10 #[.val (.ref s0), .val (.ref b10), .val (.int 3), .val (.int 0), .unset] [(.int 0)] t
    refine XS.iloadN X10.here hx rfl (hb hby Vb) rfl ?_
    refine XS.icmpNo X10.here hx rfl (hb hby Wb) rfl (tlt (by decide : (0 : Int32) < (3 : Int32))).2.1 ?_
    refine XS.aloadN X10.here hx rfl (hb hby Ic) rfl rfl ?_
    refine XS.iloadN X10.here hx rfl (hb hby Kc) rfl ?_
    refine X10.aaload hx (j := (0 : Int32)) (v := (.ref Ra)) (by exact Ar12.1) (State.isArrayOf_alike hZ.alike Ar12.2.1) rfl Ar12.2.2 hin13 hat14 (g := (mkF m 16 #[.val (.ref s0), .val (.ref b10), .val (.int 3), .val (.int 0), .unset] [(.int 0), (.ref b10)])) rfl rfl (hb hby Lc) _ ?_
    refine XS.astore X10.here hx rfl (hb hby Mc) rfl rfl (l' := #[.val (.ref s0), .val (.ref b10), .val (.int 3), .val (.int 0), .val (.ref Ra)]) rfl ?_
    refine XS.aload X10.here hx rfl (hb hby Pc) rfl rfl ?_
    refine st15 _ ?_
    show Va p e below m T15 24 #[.val (.ref s0), .val (.ref b10), .val (.int 3), .val (.int 0), .val (.ref Ra)] [(.ref Ma)] t
    refine XS.aloadN X15.here hx rfl (hb hby Uc) rfl rfl ?_
    refine st20.trans ?_
    refine XS.ifNo X20.here hx rfl (hb hby Wc) rfl ((if0 _ _).trans (feq (by decide : ¬ ((1 : Int32) = (0 : Int32)))).1) ?_
    refine XS.aload X20.here hx rfl (hb hby Kk) rfl rfl ?_
    exact k
  obtain ⟨fs, hr, hrun, hended, hW, hsame⟩ := X20.leave (v := some (.ref Ra)) (fun h => by rw [Bd.returns] at h; cases h)
  refine hNG ⟨_, _, k21 _ ?_, hrun, hended, _, _, rfl, ?_, ⟨_, rfl⟩, hW, hsame.mono (by decide) (by decide)⟩
  · exact retOut X20 hx (t := (.object "com/example/kwota/kwota/AdjustmentRequest$State")) Bd.returns rfl (Or.inr (Or.inr (Or.inr (Or.inr ⟨rfl, rfl, rfl⟩)))) (hb hby Lk) hr
  · show Vt Z s0 v0 kv z0 vs0 cs0 Ra Ya Pa Wa Ma Ga Ka Ba Ua Ha La Ia h0 n0 _ T20.heap _
    rw [hp20]
    exact ⟨rfl, N20, O10, K10⟩
theorem Ru (m : MethodId) (x0 : Addr)  : entryFrame m #[(.ref x0)] 5 = mkF m 0 #[.val (.ref x0), .unset, .unset, .unset, .unset] [] := by first | (simp [entryFrame, mkF, argsToLocals, Value.category]; done) | rfl
theorem Ld : decode prog_5_method_5_code 34 = .ok (.iinc 3 1, 3) := by decide +kernel
theorem Md : decode prog_5_method_5_code 37 = .ok (.goto (-28), 3) := by decide +kernel
def Wt (Z : State) (s0 : Addr) (v0 : Addr) (kv : ClassId) (z0 : Int32) (vs0 : List Value) (cs0 : List Int32) (Ra : Addr) (Ya : Addr) (Pa : Addr) (Wa : Addr) (Ma : Addr) (Ga : Addr) (Ka : Addr) (Ba : Addr) (Ua : Addr) (Ha : Addr) (La : Int32) (Ia : Value) (h0 : Heap) (n0 : Nat) (v : Option Value) (h : Heap) (L : List Loc) : Prop := v = some (.ref Pa) ∧ Fr n0 L ∧ Old Z n0 h ∧ Keep h0 h []
set_option maxRecDepth 65536 in
set_option maxHeartbeats 40000000 in
theorem Uu (l : Launch) (Z : State) (a0 : Array Value) (hw : ∀ d ∈ tables_1, d.before a0 Z = true) (ws : List Jvm.Cond) (s0 : Addr) (v0 : Addr) (kv : ClassId) (z0 : Int32) (vs0 : List Value) (cs0 : List Int32) (Ra : Addr) (Ya : Addr) (Pa : Addr) (Wa : Addr) (Ma : Addr) (Ga : Addr) (Ka : Addr) (Ba : Addr) (Ua : Addr) (Ha : Addr) (La : Int32) (Ia : Value) (h0 : Heap) (n0 : Nat) (O0 : Old Z n0 h0) (hE : EV Z Ra Ya Pa Wa Ma Ga Ka Ba Ua Ha La Ia) (P0 : Exa Z h0 s0 "java/lang/String") (P1 : Fld Z h0 s0 "java/lang/String" "coder" "B" (.int 0)) (P2 : Fld Z h0 s0 "java/lang/String" "value" "[B" (.ref v0)) (P3 : Arv Z h0 v0 kv .byte z0 vs0 (.int 0)) (hcd : StrChars.Road.CodA cs0 0 z0 vs0) (hbd : ∀ c ∈ cs0, ¬ c < 0 ∧ ¬ (255 : Int32) < c) (hl2 : cs0.length ≤ 4000) (m0 : ¬ (cs0 = ([(112 : Int32), (101 : Int32), (110 : Int32), (100 : Int32), (105 : Int32), (110 : Int32), (103 : Int32)] : List Int32))) (m1 : cs0 = ([(97 : Int32), (112 : Int32), (112 : Int32), (114 : Int32), (111 : Int32), (118 : Int32), (101 : Int32), (100 : Int32)] : List Int32)) :
    MetFree l Mk (head1 (Jvm.Cond.code Mk prog_5_method_5_code 5 (some (.object "com/example/kwota/kwota/AdjustmentRequest$State")) :: ws) ({ frames := 2, cells := 1, slots := 3, locals := 28 } : Room)) (fun a U => a = #[(.ref s0)] ∧ Z.Warmed39 U.vm ∧ U.heap = h0) (fun _ _ _ _ _ => True) (fun _ U o U' => ∃ v L, o = .returned v ∧ Wt Z s0 v0 kv z0 vs0 cs0 Ra Ya Pa Wa Ma Ga Ka Ba Ua Ha La Ia h0 n0 v U'.heap L ∧ FrameEnd U o U' L ({ frames := 2, cells := 1, slots := 3, locals := 28 } : Room).cells ({ frames := 2, cells := 1, slots := 3, locals := 28 } : Room).slots) := by
  refine MetFree.of_bodySF (plainFor_of_name Ac) hisR ?_
  intro p e s m args below meth c s₁ Bd hml0 hP hK
  obtain ⟨rfl, hZ, hh⟩ := hP
  have hx := Bd.exec
  have hby := Bd.bytes
  have hml : c.maxLocals = 5 := hml0
  have hown : s.vm.findClass "com/example/kwota/kwota/AdjustmentRequest$State" = some m.cls := findClass_of_methodNamed Bd.named
  have hnm := (name_of_methodNamed Bd.named Bd.method).1
  have X00 : Stand p l e ({ frames := 2, cells := 1, slots := 3, locals := 28 } : Room) s m #[(.ref s0)] below meth c s₁ [] 0 0 := Stand.of_body Bd
  have e00 : s₁.heap = h0 := by rw [← hh, Bd.state]; rfl
  have N00 := Fr.nil n0
  refine Classical.byContradiction fun hNG => ?_
  have K00 := Keep.refl h0 []
  have k00 : ∀ t, Va p e below m s₁ 0 #[.val (.ref s0), .unset, .unset, .unset, .unset] [] t → Ab p e below m s₁ #[(.ref s0)] 5 t := fun t k => castTop (Ru m s0 ) k
  obtain ⟨Hh, Mh, Ih, Kh, Rg, Gh, Ki, Li, Dd, Zb, Lb, Mb, Ad, Bc, Pb, Rb, Pd, Hd, Dc, Gc, Bb, Za, Zc, Yc, Lh, Gb, Db, Hb⟩ := (id hE : EV Z Ra Ya Pa Wa Ma Ga Ka Ba Ua Ha La Ia)
  obtain ⟨kw_PENDING_word, Aw_PENDING_word⟩ := Gb.arv
  obtain ⟨kw_APPROVED_word, Aw_APPROVED_word⟩ := Db.arv
  obtain ⟨kw_DENIED_word, Aw_DENIED_word⟩ := Hb.arv
  obtain ⟨_, _, ⟨T10, L10, k10, n10⟩, -, X10, ⟨Lc10, hQ10, l10, y10, z10⟩, st10⟩ := Jvm.LawKit.callS X00 hx (y := Mp) hown (mvT hZ (Da hw 89 rfl)) (mvT hZ (Da hw 90 rfl)) (mvT hZ (Da hw 84 rfl)) (mvT hZ (Da hw 91 rfl)) (by decide) (backOf (W := 0) (Pp l Z a0 hw []  _ _ _ _ _ _ _ _ _ _ _ _ h0 n0 O0 hE  ) hZ (Da hw 91 rfl) (Da hw 84 rfl) (by decide) (by decide)) (g := (mkF m 0 #[.val (.ref s0), .unset, .unset, .unset, .unset] [])) rfl (by rw [hml]; rfl) (argsL := []) (rest := []) (lenOf Hc rfl) rfl (by show 2 * 0 + _ ≤ _; exact Nat.le_of_eq rfl) (hb hby Zh) (fun _ _ => ⟨rfl, e00, (by decide : 0 + 1 ≤ _), (by decide : 0 + 3 ≤ _)⟩)
  dsimp only [Pt.U, Pt.locs, Pt.cells, Pt.slots] at X10 l10 y10 z10 st10 hQ10
  subst l10 y10 z10
  obtain ⟨b10, k10, rfl, N10q, O10, Kc10, g_b10, gs_b10, F10_0⟩ := hQ10
  have N10 := Fr.app N00 N10q
  have K10 := K00.trans Kc10 (fun x hx => nomatch hx)
  have s_b10 := Nat.le_trans K00.1 gs_b10
  have lt_b10 := F10_0.lt
  obtain ⟨cl11, Ar11, q11, Sz11, Nn11, Hs11, Gf11⟩ := id F10_0
  obtain ⟨cl12, Ar12, q12, Sz12, Nn12, Hs12, Gf12⟩ := id F10_0
  have hin13 : ¬ ((0 : Int32) < 0 ∨ cl12.slots.size ≤ ((0 : Int32)).toNatClampNeg) := inb_of Sz12 ⟨by decide, by decide⟩
  have hat14 : cl12.slots[((0 : Int32)).toNatClampNeg]? = some (.ref Ra) := Hs12.at hin13 rfl
  obtain ⟨T15, X15, e15, st15⟩ := getF X10 hx hZ hown (host := "") (Or.inl (Da hw 106 rfl)) Via.refl rfl (Dd.ext O10.2) (g := (mkF m 21 #[.val (.ref s0), .val (.ref b10), .val (.int 3), .val (.int 0), .val (.ref Ra)] [(.ref Ra)])) rfl rfl (hb hby Rc)
  have f16 := (P0.keep Kc10)
  have f17 := (P2.keep Kc10 List.not_mem_nil)
  have f18 := (P1.keep Kc10 List.not_mem_nil)
  have f19 := (P3.keep Kc10 List.not_mem_nil)
  obtain ⟨cq20, kq20, q20a, q20b, q20c⟩ := isOf hZ e15 (Zb.ext O10.2)
  obtain ⟨_, _, ⟨T20, L20, k20, n20⟩, -, X20, ⟨Lc20, hQ20, l20, y20, z20⟩, st20⟩ := X15.virtualBack hx (y := Kd) (z := Kd) hown (mvT hZ (Da hw 108 rfl)) (mvT hZ (Da hw 75 rfl)) (notFace_of_selects (args := #[]) (mvT hZ (Da hw 77 rfl))) (mvT hZ (Da hw 77 rfl)) (mvT hZ (Da hw 76 rfl)) (by decide) (StrChars.Road.eqW (W := 0) hZ (Gj hw) (kI := 4) (Da hw 8 rfl) (Zb.ext O10.2) (Mb.ext O10.2) (Lb.ext O10.2) (Aw_PENDING_word.ext O10.2) Hj (Ie _ Mi) (Nat.le_of_ble_eq_true rfl) f16 f17 f18 f19 hcd (Ie _ hbd) hl2 (Bb.ext O10.2) Za (by decide) (by decide)) q20a q20c (g := (mkF m 25 #[.val (.ref s0), .val (.ref b10), .val (.int 3), .val (.int 0), .val (.ref Ra)] [(.ref s0), (.ref Ma)])) rfl (by rw [hml]; rfl) (Steps.refl _) (argsL := [(.ref s0)]) (rest := []) (lenOf Ib rfl) rfl (by show 2 * 0 + _ ≤ _; exact Nat.le_of_eq rfl) (hb hby Vc) (fun _ _ => ⟨rfl, e15, (by decide : 1 + 0 ≤ _), (by decide : 3 + 0 ≤ _)⟩)
  dsimp only [Pt.U, Pt.locs, Pt.cells, Pt.slots] at X20 l20 y20 z20 st20 hQ20
  subst l20 y20 z20
  obtain ⟨hcase20, rfl, hp20⟩ := hQ20
  have N20q : Fr n0 ([] : List Loc) := Fr.nil n0
  have hv20 : _ = some (Value.int 0) := hcase20.elim (fun q => absurd q.2 (fun q => m0 q.symm)) (fun q => q.1)
  subst hv20
  have N20 := Fr.app N10 N20q
  obtain ⟨cl21, Ar21, q21, Sz21, Nn21, Hs21, Gf21⟩ := id F10_0
  have hin22 : ¬ ((1 : Int32) < 0 ∨ cl21.slots.size ≤ ((1 : Int32)).toNatClampNeg) := inb_of Sz21 ⟨by decide, by decide⟩
  have hat23 : cl21.slots[((1 : Int32)).toNatClampNeg]? = some (.ref Pa) := Hs21.at hin22 rfl
  obtain ⟨T24, X24, e24, st24⟩ := getF X20 hx hZ hown (host := "") (Or.inl (Da hw 106 rfl)) Via.refl hp20 (Ad.ext O10.2) (g := (mkF m 21 #[.val (.ref s0), .val (.ref b10), .val (.int 3), .val (.int 1), .val (.ref Pa)] [(.ref Pa)])) rfl rfl (hb hby Rc)
  obtain ⟨cq25, kq25, q25a, q25b, q25c⟩ := isOf hZ e24 (Bc.ext O10.2)
  obtain ⟨_, _, ⟨T25, L25, k25, n25⟩, -, X25, ⟨Lc25, hQ25, l25, y25, z25⟩, st25⟩ := X24.virtualBack hx (y := Kd) (z := Kd) hown (mvT hZ (Da hw 108 rfl)) (mvT hZ (Da hw 75 rfl)) (notFace_of_selects (args := #[]) (mvT hZ (Da hw 77 rfl))) (mvT hZ (Da hw 77 rfl)) (mvT hZ (Da hw 76 rfl)) (by decide) (StrChars.Road.eqW (W := 0) hZ (Gj hw) (kI := 4) (Da hw 8 rfl) (Bc.ext O10.2) (Rb.ext O10.2) (Pb.ext O10.2) (Aw_APPROVED_word.ext O10.2) Uj (Ie _ Aj) (Nat.le_of_ble_eq_true rfl) f16 f17 f18 f19 hcd (Ie _ hbd) hl2 (Bb.ext O10.2) Za (by decide) (by decide)) q25a q25c (g := (mkF m 25 #[.val (.ref s0), .val (.ref b10), .val (.int 3), .val (.int 1), .val (.ref Pa)] [(.ref s0), (.ref Ka)])) rfl (by rw [hml]; rfl) (Steps.refl _) (argsL := [(.ref s0)]) (rest := []) (lenOf Ib rfl) rfl (by show 2 * 0 + _ ≤ _; exact Nat.le_of_eq rfl) (hb hby Vc) (fun _ _ => ⟨rfl, e24, (by decide : 1 + 0 ≤ _), (by decide : 3 + 0 ≤ _)⟩)
  dsimp only [Pt.U, Pt.locs, Pt.cells, Pt.slots] at X25 l25 y25 z25 st25 hQ25
  subst l25 y25 z25
  obtain ⟨hcase25, rfl, hp25⟩ := hQ25
  have N25q : Fr n0 ([] : List Loc) := Fr.nil n0
  have hv25 : _ = some (Value.int 1) := hcase25.elim (fun q => q.1) (fun q => absurd m1.symm q.2)
  subst hv25
  have N25 := Fr.app N20 N25q
  have k26 : ∀ t, Va p e below m T25 33 #[.val (.ref s0), .val (.ref b10), .val (.int 3), .val (.int 1), .val (.ref Pa)] [(.ref Pa)] t → Ab p e below m s₁ #[(.ref s0)] 5 t := by
    intro t k
    refine k00 t ?_
    refine st10 _ ?_
    refine XS.astoreN X10.here hx rfl (hb hby Ai) rfl rfl (l' := #[.val (.ref s0), .val (.ref b10), .unset, .unset, .unset]) rfl ?_
    refine XS.aloadN X10.here hx rfl (hb hby Bi) rfl rfl ?_
    refine X10.arraylength hx (by exact Ar11.1) (State.isArrayOf_alike hZ.alike Ar11.2.1) (g := (mkF m 5 #[.val (.ref s0), .val (.ref b10), .unset, .unset, .unset] [(.ref b10)])) rfl rfl (hb hby Di) _ ?_
    rw [len_of Sz11 Nn11]
    refine XS.istoreN X10.here hx rfl (hb hby Gi) rfl (l' := #[.val (.ref s0), .val (.ref b10), .val (.int 3), .unset, .unset]) rfl ?_
    refine XS.iconst X10.here hx rfl (hb hby Hi) ?_
    refine XS.istoreN X10.here hx rfl (hb hby Ii) rfl (l' := #[.val (.ref s0), .val (.ref b10), .val (.int 3), .val (.int 0), .unset]) rfl ?_
    refine XS.iloadN X10.here hx rfl (hb hby Yb) rfl ?_
    show Va p e below m T10 10 #[.val (.ref s0), .val (.ref b10), .val (.int 3), .val (.int 0), .unset] [(.int 0)] t
    refine XS.iloadN X10.here hx rfl (hb hby Vb) rfl ?_
    refine XS.icmpNo X10.here hx rfl (hb hby Wb) rfl (tlt (by decide : (0 : Int32) < (3 : Int32))).2.1 ?_
    refine XS.aloadN X10.here hx rfl (hb hby Ic) rfl rfl ?_
    refine XS.iloadN X10.here hx rfl (hb hby Kc) rfl ?_
    refine X10.aaload hx (j := (0 : Int32)) (v := (.ref Ra)) (by exact Ar12.1) (State.isArrayOf_alike hZ.alike Ar12.2.1) rfl Ar12.2.2 hin13 hat14 (g := (mkF m 16 #[.val (.ref s0), .val (.ref b10), .val (.int 3), .val (.int 0), .unset] [(.int 0), (.ref b10)])) rfl rfl (hb hby Lc) _ ?_
    refine XS.astore X10.here hx rfl (hb hby Mc) rfl rfl (l' := #[.val (.ref s0), .val (.ref b10), .val (.int 3), .val (.int 0), .val (.ref Ra)]) rfl ?_
    refine XS.aload X10.here hx rfl (hb hby Pc) rfl rfl ?_
    refine st15 _ ?_
    show Va p e below m T15 24 #[.val (.ref s0), .val (.ref b10), .val (.int 3), .val (.int 0), .val (.ref Ra)] [(.ref Ma)] t
    refine XS.aloadN X15.here hx rfl (hb hby Uc) rfl rfl ?_
    refine st20.trans ?_
    refine XS.ifYes X20.here hx rfl (pc0 := 28) (pc' := 34) rfl (hb hby Wc) rfl ((if0 _ _).trans (teq (by decide : (0 : Int32) = (0 : Int32))).1) (by decide) (by decide) ?_
    refine XS.iinc X20.here hx rfl (hb hby Ld) rfl (l' := #[.val (.ref s0), .val (.ref b10), .val (.int 3), .val (.int ((0 : Int32) + (1 : Int32))), .val (.ref Ra)]) rfl ?_
    show Va p e below m T20 37 #[.val (.ref s0), .val (.ref b10), .val (.int 3), .val (.int ((0 : Int32) + (1 : Int32))), .val (.ref Ra)] [] t
    rw [show ((0 : Int32) + (1 : Int32)) = (1 : Int32) from by decide]
    refine XS.goto X20.here hx rfl (pc0 := 37) (pc' := 9) rfl (hb hby Md) (by decide) (by decide) ?_
    refine XS.iloadN X20.here hx rfl (hb hby Yb) rfl ?_
    refine XS.iloadN X20.here hx rfl (hb hby Vb) rfl ?_
    show Va p e below m T20 11 #[.val (.ref s0), .val (.ref b10), .val (.int 3), .val (.int 1), .val (.ref Ra)] [(.int 3), (.int 1)] t
    refine XS.icmpNo X20.here hx rfl (hb hby Wb) rfl (tlt (by decide : (1 : Int32) < (3 : Int32))).2.1 ?_
    refine XS.aloadN X20.here hx rfl (hb hby Ic) rfl rfl ?_
    refine XS.iloadN X20.here hx rfl (hb hby Kc) rfl ?_
    refine X20.aaload hx (j := (1 : Int32)) (v := (.ref Pa)) (by rw [hp20]; exact Ar21.1) (State.isArrayOf_alike hZ.alike Ar21.2.1) rfl Ar21.2.2 hin22 hat23 (g := (mkF m 16 #[.val (.ref s0), .val (.ref b10), .val (.int 3), .val (.int 1), .val (.ref Ra)] [(.int 1), (.ref b10)])) rfl rfl (hb hby Lc) _ ?_
    refine XS.astore X20.here hx rfl (hb hby Mc) rfl rfl (l' := #[.val (.ref s0), .val (.ref b10), .val (.int 3), .val (.int 1), .val (.ref Pa)]) rfl ?_
    refine XS.aload X20.here hx rfl (hb hby Pc) rfl rfl ?_
    refine st24 _ ?_
    refine XS.aloadN X24.here hx rfl (hb hby Uc) rfl rfl ?_
    show Va p e below m T24 25 #[.val (.ref s0), .val (.ref b10), .val (.int 3), .val (.int 1), .val (.ref Pa)] [(.ref s0), (.ref Ka)] t
    refine st25.trans ?_
    refine XS.ifNo X25.here hx rfl (hb hby Wc) rfl ((if0 _ _).trans (feq (by decide : ¬ ((1 : Int32) = (0 : Int32)))).1) ?_
    refine XS.aload X25.here hx rfl (hb hby Kk) rfl rfl ?_
    exact k
  obtain ⟨fs, hr, hrun, hended, hW, hsame⟩ := X25.leave (v := some (.ref Pa)) (fun h => by rw [Bd.returns] at h; cases h)
  refine hNG ⟨_, _, k26 _ ?_, hrun, hended, _, _, rfl, ?_, ⟨_, rfl⟩, hW, hsame.mono (by decide) (by decide)⟩
  · exact retOut X25 hx (t := (.object "com/example/kwota/kwota/AdjustmentRequest$State")) Bd.returns rfl (Or.inr (Or.inr (Or.inr (Or.inr ⟨rfl, rfl, rfl⟩)))) (hb hby Lk) hr
  · show Wt Z s0 v0 kv z0 vs0 cs0 Ra Ya Pa Wa Ma Ga Ka Ba Ua Ha La Ia h0 n0 _ T25.heap _
    rw [hp25]
    exact ⟨rfl, N25, O10, K10⟩
theorem Vu (m : MethodId) (x0 : Addr)  : entryFrame m #[(.ref x0)] 5 = mkF m 0 #[.val (.ref x0), .unset, .unset, .unset, .unset] [] := by first | (simp [entryFrame, mkF, argsToLocals, Value.category]; done) | rfl
def Yt (Z : State) (s0 : Addr) (v0 : Addr) (kv : ClassId) (z0 : Int32) (vs0 : List Value) (cs0 : List Int32) (Ra : Addr) (Ya : Addr) (Pa : Addr) (Wa : Addr) (Ma : Addr) (Ga : Addr) (Ka : Addr) (Ba : Addr) (Ua : Addr) (Ha : Addr) (La : Int32) (Ia : Value) (h0 : Heap) (n0 : Nat) (v : Option Value) (h : Heap) (L : List Loc) : Prop := v = some (.ref Wa) ∧ Fr n0 L ∧ Old Z n0 h ∧ Keep h0 h []
set_option maxRecDepth 65536 in
set_option maxHeartbeats 40000000 in
theorem Wu (l : Launch) (Z : State) (a0 : Array Value) (hw : ∀ d ∈ tables_1, d.before a0 Z = true) (ws : List Jvm.Cond) (s0 : Addr) (v0 : Addr) (kv : ClassId) (z0 : Int32) (vs0 : List Value) (cs0 : List Int32) (Ra : Addr) (Ya : Addr) (Pa : Addr) (Wa : Addr) (Ma : Addr) (Ga : Addr) (Ka : Addr) (Ba : Addr) (Ua : Addr) (Ha : Addr) (La : Int32) (Ia : Value) (h0 : Heap) (n0 : Nat) (O0 : Old Z n0 h0) (hE : EV Z Ra Ya Pa Wa Ma Ga Ka Ba Ua Ha La Ia) (P0 : Exa Z h0 s0 "java/lang/String") (P1 : Fld Z h0 s0 "java/lang/String" "coder" "B" (.int 0)) (P2 : Fld Z h0 s0 "java/lang/String" "value" "[B" (.ref v0)) (P3 : Arv Z h0 v0 kv .byte z0 vs0 (.int 0)) (hcd : StrChars.Road.CodA cs0 0 z0 vs0) (hbd : ∀ c ∈ cs0, ¬ c < 0 ∧ ¬ (255 : Int32) < c) (hl2 : cs0.length ≤ 4000) (m0 : ¬ (cs0 = ([(112 : Int32), (101 : Int32), (110 : Int32), (100 : Int32), (105 : Int32), (110 : Int32), (103 : Int32)] : List Int32))) (m1 : ¬ (cs0 = ([(97 : Int32), (112 : Int32), (112 : Int32), (114 : Int32), (111 : Int32), (118 : Int32), (101 : Int32), (100 : Int32)] : List Int32))) (m2 : cs0 = ([(100 : Int32), (101 : Int32), (110 : Int32), (105 : Int32), (101 : Int32), (100 : Int32)] : List Int32)) :
    MetFree l Mk (head1 (Jvm.Cond.code Mk prog_5_method_5_code 5 (some (.object "com/example/kwota/kwota/AdjustmentRequest$State")) :: ws) ({ frames := 2, cells := 1, slots := 3, locals := 28 } : Room)) (fun a U => a = #[(.ref s0)] ∧ Z.Warmed39 U.vm ∧ U.heap = h0) (fun _ _ _ _ _ => True) (fun _ U o U' => ∃ v L, o = .returned v ∧ Yt Z s0 v0 kv z0 vs0 cs0 Ra Ya Pa Wa Ma Ga Ka Ba Ua Ha La Ia h0 n0 v U'.heap L ∧ FrameEnd U o U' L ({ frames := 2, cells := 1, slots := 3, locals := 28 } : Room).cells ({ frames := 2, cells := 1, slots := 3, locals := 28 } : Room).slots) := by
  refine MetFree.of_bodySF (plainFor_of_name Ac) hisR ?_
  intro p e s m args below meth c s₁ Bd hml0 hP hK
  obtain ⟨rfl, hZ, hh⟩ := hP
  have hx := Bd.exec
  have hby := Bd.bytes
  have hml : c.maxLocals = 5 := hml0
  have hown : s.vm.findClass "com/example/kwota/kwota/AdjustmentRequest$State" = some m.cls := findClass_of_methodNamed Bd.named
  have hnm := (name_of_methodNamed Bd.named Bd.method).1
  have X00 : Stand p l e ({ frames := 2, cells := 1, slots := 3, locals := 28 } : Room) s m #[(.ref s0)] below meth c s₁ [] 0 0 := Stand.of_body Bd
  have e00 : s₁.heap = h0 := by rw [← hh, Bd.state]; rfl
  have N00 := Fr.nil n0
  refine Classical.byContradiction fun hNG => ?_
  have K00 := Keep.refl h0 []
  have k00 : ∀ t, Va p e below m s₁ 0 #[.val (.ref s0), .unset, .unset, .unset, .unset] [] t → Ab p e below m s₁ #[(.ref s0)] 5 t := fun t k => castTop (Vu m s0 ) k
  obtain ⟨Hh, Mh, Ih, Kh, Rg, Gh, Ki, Li, Dd, Zb, Lb, Mb, Ad, Bc, Pb, Rb, Pd, Hd, Dc, Gc, Bb, Za, Zc, Yc, Lh, Gb, Db, Hb⟩ := (id hE : EV Z Ra Ya Pa Wa Ma Ga Ka Ba Ua Ha La Ia)
  obtain ⟨kw_PENDING_word, Aw_PENDING_word⟩ := Gb.arv
  obtain ⟨kw_APPROVED_word, Aw_APPROVED_word⟩ := Db.arv
  obtain ⟨kw_DENIED_word, Aw_DENIED_word⟩ := Hb.arv
  obtain ⟨_, _, ⟨T10, L10, k10, n10⟩, -, X10, ⟨Lc10, hQ10, l10, y10, z10⟩, st10⟩ := Jvm.LawKit.callS X00 hx (y := Mp) hown (mvT hZ (Da hw 89 rfl)) (mvT hZ (Da hw 90 rfl)) (mvT hZ (Da hw 84 rfl)) (mvT hZ (Da hw 91 rfl)) (by decide) (backOf (W := 0) (Pp l Z a0 hw []  _ _ _ _ _ _ _ _ _ _ _ _ h0 n0 O0 hE  ) hZ (Da hw 91 rfl) (Da hw 84 rfl) (by decide) (by decide)) (g := (mkF m 0 #[.val (.ref s0), .unset, .unset, .unset, .unset] [])) rfl (by rw [hml]; rfl) (argsL := []) (rest := []) (lenOf Hc rfl) rfl (by show 2 * 0 + _ ≤ _; exact Nat.le_of_eq rfl) (hb hby Zh) (fun _ _ => ⟨rfl, e00, (by decide : 0 + 1 ≤ _), (by decide : 0 + 3 ≤ _)⟩)
  dsimp only [Pt.U, Pt.locs, Pt.cells, Pt.slots] at X10 l10 y10 z10 st10 hQ10
  subst l10 y10 z10
  obtain ⟨b10, k10, rfl, N10q, O10, Kc10, g_b10, gs_b10, F10_0⟩ := hQ10
  have N10 := Fr.app N00 N10q
  have K10 := K00.trans Kc10 (fun x hx => nomatch hx)
  have s_b10 := Nat.le_trans K00.1 gs_b10
  have lt_b10 := F10_0.lt
  obtain ⟨cl11, Ar11, q11, Sz11, Nn11, Hs11, Gf11⟩ := id F10_0
  obtain ⟨cl12, Ar12, q12, Sz12, Nn12, Hs12, Gf12⟩ := id F10_0
  have hin13 : ¬ ((0 : Int32) < 0 ∨ cl12.slots.size ≤ ((0 : Int32)).toNatClampNeg) := inb_of Sz12 ⟨by decide, by decide⟩
  have hat14 : cl12.slots[((0 : Int32)).toNatClampNeg]? = some (.ref Ra) := Hs12.at hin13 rfl
  obtain ⟨T15, X15, e15, st15⟩ := getF X10 hx hZ hown (host := "") (Or.inl (Da hw 106 rfl)) Via.refl rfl (Dd.ext O10.2) (g := (mkF m 21 #[.val (.ref s0), .val (.ref b10), .val (.int 3), .val (.int 0), .val (.ref Ra)] [(.ref Ra)])) rfl rfl (hb hby Rc)
  have f16 := (P0.keep Kc10)
  have f17 := (P2.keep Kc10 List.not_mem_nil)
  have f18 := (P1.keep Kc10 List.not_mem_nil)
  have f19 := (P3.keep Kc10 List.not_mem_nil)
  obtain ⟨cq20, kq20, q20a, q20b, q20c⟩ := isOf hZ e15 (Zb.ext O10.2)
  obtain ⟨_, _, ⟨T20, L20, k20, n20⟩, -, X20, ⟨Lc20, hQ20, l20, y20, z20⟩, st20⟩ := X15.virtualBack hx (y := Kd) (z := Kd) hown (mvT hZ (Da hw 108 rfl)) (mvT hZ (Da hw 75 rfl)) (notFace_of_selects (args := #[]) (mvT hZ (Da hw 77 rfl))) (mvT hZ (Da hw 77 rfl)) (mvT hZ (Da hw 76 rfl)) (by decide) (StrChars.Road.eqW (W := 0) hZ (Gj hw) (kI := 4) (Da hw 8 rfl) (Zb.ext O10.2) (Mb.ext O10.2) (Lb.ext O10.2) (Aw_PENDING_word.ext O10.2) Hj (Ie _ Mi) (Nat.le_of_ble_eq_true rfl) f16 f17 f18 f19 hcd (Ie _ hbd) hl2 (Bb.ext O10.2) Za (by decide) (by decide)) q20a q20c (g := (mkF m 25 #[.val (.ref s0), .val (.ref b10), .val (.int 3), .val (.int 0), .val (.ref Ra)] [(.ref s0), (.ref Ma)])) rfl (by rw [hml]; rfl) (Steps.refl _) (argsL := [(.ref s0)]) (rest := []) (lenOf Ib rfl) rfl (by show 2 * 0 + _ ≤ _; exact Nat.le_of_eq rfl) (hb hby Vc) (fun _ _ => ⟨rfl, e15, (by decide : 1 + 0 ≤ _), (by decide : 3 + 0 ≤ _)⟩)
  dsimp only [Pt.U, Pt.locs, Pt.cells, Pt.slots] at X20 l20 y20 z20 st20 hQ20
  subst l20 y20 z20
  obtain ⟨hcase20, rfl, hp20⟩ := hQ20
  have N20q : Fr n0 ([] : List Loc) := Fr.nil n0
  have hv20 : _ = some (Value.int 0) := hcase20.elim (fun q => absurd q.2 (fun q => m0 q.symm)) (fun q => q.1)
  subst hv20
  have N20 := Fr.app N10 N20q
  obtain ⟨cl21, Ar21, q21, Sz21, Nn21, Hs21, Gf21⟩ := id F10_0
  have hin22 : ¬ ((1 : Int32) < 0 ∨ cl21.slots.size ≤ ((1 : Int32)).toNatClampNeg) := inb_of Sz21 ⟨by decide, by decide⟩
  have hat23 : cl21.slots[((1 : Int32)).toNatClampNeg]? = some (.ref Pa) := Hs21.at hin22 rfl
  obtain ⟨T24, X24, e24, st24⟩ := getF X20 hx hZ hown (host := "") (Or.inl (Da hw 106 rfl)) Via.refl hp20 (Ad.ext O10.2) (g := (mkF m 21 #[.val (.ref s0), .val (.ref b10), .val (.int 3), .val (.int 1), .val (.ref Pa)] [(.ref Pa)])) rfl rfl (hb hby Rc)
  obtain ⟨cq25, kq25, q25a, q25b, q25c⟩ := isOf hZ e24 (Bc.ext O10.2)
  obtain ⟨_, _, ⟨T25, L25, k25, n25⟩, -, X25, ⟨Lc25, hQ25, l25, y25, z25⟩, st25⟩ := X24.virtualBack hx (y := Kd) (z := Kd) hown (mvT hZ (Da hw 108 rfl)) (mvT hZ (Da hw 75 rfl)) (notFace_of_selects (args := #[]) (mvT hZ (Da hw 77 rfl))) (mvT hZ (Da hw 77 rfl)) (mvT hZ (Da hw 76 rfl)) (by decide) (StrChars.Road.eqW (W := 0) hZ (Gj hw) (kI := 4) (Da hw 8 rfl) (Bc.ext O10.2) (Rb.ext O10.2) (Pb.ext O10.2) (Aw_APPROVED_word.ext O10.2) Uj (Ie _ Aj) (Nat.le_of_ble_eq_true rfl) f16 f17 f18 f19 hcd (Ie _ hbd) hl2 (Bb.ext O10.2) Za (by decide) (by decide)) q25a q25c (g := (mkF m 25 #[.val (.ref s0), .val (.ref b10), .val (.int 3), .val (.int 1), .val (.ref Pa)] [(.ref s0), (.ref Ka)])) rfl (by rw [hml]; rfl) (Steps.refl _) (argsL := [(.ref s0)]) (rest := []) (lenOf Ib rfl) rfl (by show 2 * 0 + _ ≤ _; exact Nat.le_of_eq rfl) (hb hby Vc) (fun _ _ => ⟨rfl, e24, (by decide : 1 + 0 ≤ _), (by decide : 3 + 0 ≤ _)⟩)
  dsimp only [Pt.U, Pt.locs, Pt.cells, Pt.slots] at X25 l25 y25 z25 st25 hQ25
  subst l25 y25 z25
  obtain ⟨hcase25, rfl, hp25⟩ := hQ25
  have N25q : Fr n0 ([] : List Loc) := Fr.nil n0
  have hv25 : _ = some (Value.int 0) := hcase25.elim (fun q => absurd q.2 (fun q => m1 q.symm)) (fun q => q.1)
  subst hv25
  have N25 := Fr.app N20 N25q
  obtain ⟨cl26, Ar26, q26, Sz26, Nn26, Hs26, Gf26⟩ := id F10_0
  have hin27 : ¬ ((2 : Int32) < 0 ∨ cl26.slots.size ≤ ((2 : Int32)).toNatClampNeg) := inb_of Sz26 ⟨by decide, by decide⟩
  have hat28 : cl26.slots[((2 : Int32)).toNatClampNeg]? = some (.ref Wa) := Hs26.at hin27 rfl
  obtain ⟨T29, X29, e29, st29⟩ := getF X25 hx hZ hown (host := "") (Or.inl (Da hw 106 rfl)) Via.refl hp25 (Pd.ext O10.2) (g := (mkF m 21 #[.val (.ref s0), .val (.ref b10), .val (.int 3), .val (.int 2), .val (.ref Wa)] [(.ref Wa)])) rfl rfl (hb hby Rc)
  obtain ⟨cq30, kq30, q30a, q30b, q30c⟩ := isOf hZ e29 (Hd.ext O10.2)
  obtain ⟨_, _, ⟨T30, L30, k30, n30⟩, -, X30, ⟨Lc30, hQ30, l30, y30, z30⟩, st30⟩ := X29.virtualBack hx (y := Kd) (z := Kd) hown (mvT hZ (Da hw 108 rfl)) (mvT hZ (Da hw 75 rfl)) (notFace_of_selects (args := #[]) (mvT hZ (Da hw 77 rfl))) (mvT hZ (Da hw 77 rfl)) (mvT hZ (Da hw 76 rfl)) (by decide) (StrChars.Road.eqW (W := 0) hZ (Gj hw) (kI := 4) (Da hw 8 rfl) (Hd.ext O10.2) (Gc.ext O10.2) (Dc.ext O10.2) (Aw_DENIED_word.ext O10.2) Ll (Ie _ Pk) (Nat.le_of_ble_eq_true rfl) f16 f17 f18 f19 hcd (Ie _ hbd) hl2 (Bb.ext O10.2) Za (by decide) (by decide)) q30a q30c (g := (mkF m 25 #[.val (.ref s0), .val (.ref b10), .val (.int 3), .val (.int 2), .val (.ref Wa)] [(.ref s0), (.ref Ua)])) rfl (by rw [hml]; rfl) (Steps.refl _) (argsL := [(.ref s0)]) (rest := []) (lenOf Ib rfl) rfl (by show 2 * 0 + _ ≤ _; exact Nat.le_of_eq rfl) (hb hby Vc) (fun _ _ => ⟨rfl, e29, (by decide : 1 + 0 ≤ _), (by decide : 3 + 0 ≤ _)⟩)
  dsimp only [Pt.U, Pt.locs, Pt.cells, Pt.slots] at X30 l30 y30 z30 st30 hQ30
  subst l30 y30 z30
  obtain ⟨hcase30, rfl, hp30⟩ := hQ30
  have N30q : Fr n0 ([] : List Loc) := Fr.nil n0
  have hv30 : _ = some (Value.int 1) := hcase30.elim (fun q => q.1) (fun q => absurd m2.symm q.2)
  subst hv30
  have N30 := Fr.app N25 N30q
  have k31 : ∀ t, Va p e below m T30 33 #[.val (.ref s0), .val (.ref b10), .val (.int 3), .val (.int 2), .val (.ref Wa)] [(.ref Wa)] t → Ab p e below m s₁ #[(.ref s0)] 5 t := by
    intro t k
    refine k00 t ?_
    refine st10 _ ?_
    refine XS.astoreN X10.here hx rfl (hb hby Ai) rfl rfl (l' := #[.val (.ref s0), .val (.ref b10), .unset, .unset, .unset]) rfl ?_
    refine XS.aloadN X10.here hx rfl (hb hby Bi) rfl rfl ?_
    refine X10.arraylength hx (by exact Ar11.1) (State.isArrayOf_alike hZ.alike Ar11.2.1) (g := (mkF m 5 #[.val (.ref s0), .val (.ref b10), .unset, .unset, .unset] [(.ref b10)])) rfl rfl (hb hby Di) _ ?_
    rw [len_of Sz11 Nn11]
    refine XS.istoreN X10.here hx rfl (hb hby Gi) rfl (l' := #[.val (.ref s0), .val (.ref b10), .val (.int 3), .unset, .unset]) rfl ?_
    refine XS.iconst X10.here hx rfl (hb hby Hi) ?_
    refine XS.istoreN X10.here hx rfl (hb hby Ii) rfl (l' := #[.val (.ref s0), .val (.ref b10), .val (.int 3), .val (.int 0), .unset]) rfl ?_
    refine XS.iloadN X10.here hx rfl (hb hby Yb) rfl ?_
    show Va p e below m T10 10 #[.val (.ref s0), .val (.ref b10), .val (.int 3), .val (.int 0), .unset] [(.int 0)] t
    refine XS.iloadN X10.here hx rfl (hb hby Vb) rfl ?_
    refine XS.icmpNo X10.here hx rfl (hb hby Wb) rfl (tlt (by decide : (0 : Int32) < (3 : Int32))).2.1 ?_
    refine XS.aloadN X10.here hx rfl (hb hby Ic) rfl rfl ?_
    refine XS.iloadN X10.here hx rfl (hb hby Kc) rfl ?_
    refine X10.aaload hx (j := (0 : Int32)) (v := (.ref Ra)) (by exact Ar12.1) (State.isArrayOf_alike hZ.alike Ar12.2.1) rfl Ar12.2.2 hin13 hat14 (g := (mkF m 16 #[.val (.ref s0), .val (.ref b10), .val (.int 3), .val (.int 0), .unset] [(.int 0), (.ref b10)])) rfl rfl (hb hby Lc) _ ?_
    refine XS.astore X10.here hx rfl (hb hby Mc) rfl rfl (l' := #[.val (.ref s0), .val (.ref b10), .val (.int 3), .val (.int 0), .val (.ref Ra)]) rfl ?_
    refine XS.aload X10.here hx rfl (hb hby Pc) rfl rfl ?_
    refine st15 _ ?_
    show Va p e below m T15 24 #[.val (.ref s0), .val (.ref b10), .val (.int 3), .val (.int 0), .val (.ref Ra)] [(.ref Ma)] t
    refine XS.aloadN X15.here hx rfl (hb hby Uc) rfl rfl ?_
    refine st20.trans ?_
    refine XS.ifYes X20.here hx rfl (pc0 := 28) (pc' := 34) rfl (hb hby Wc) rfl ((if0 _ _).trans (teq (by decide : (0 : Int32) = (0 : Int32))).1) (by decide) (by decide) ?_
    refine XS.iinc X20.here hx rfl (hb hby Ld) rfl (l' := #[.val (.ref s0), .val (.ref b10), .val (.int 3), .val (.int ((0 : Int32) + (1 : Int32))), .val (.ref Ra)]) rfl ?_
    show Va p e below m T20 37 #[.val (.ref s0), .val (.ref b10), .val (.int 3), .val (.int ((0 : Int32) + (1 : Int32))), .val (.ref Ra)] [] t
    rw [show ((0 : Int32) + (1 : Int32)) = (1 : Int32) from by decide]
    refine XS.goto X20.here hx rfl (pc0 := 37) (pc' := 9) rfl (hb hby Md) (by decide) (by decide) ?_
    refine XS.iloadN X20.here hx rfl (hb hby Yb) rfl ?_
    refine XS.iloadN X20.here hx rfl (hb hby Vb) rfl ?_
    show Va p e below m T20 11 #[.val (.ref s0), .val (.ref b10), .val (.int 3), .val (.int 1), .val (.ref Ra)] [(.int 3), (.int 1)] t
    refine XS.icmpNo X20.here hx rfl (hb hby Wb) rfl (tlt (by decide : (1 : Int32) < (3 : Int32))).2.1 ?_
    refine XS.aloadN X20.here hx rfl (hb hby Ic) rfl rfl ?_
    refine XS.iloadN X20.here hx rfl (hb hby Kc) rfl ?_
    refine X20.aaload hx (j := (1 : Int32)) (v := (.ref Pa)) (by rw [hp20]; exact Ar21.1) (State.isArrayOf_alike hZ.alike Ar21.2.1) rfl Ar21.2.2 hin22 hat23 (g := (mkF m 16 #[.val (.ref s0), .val (.ref b10), .val (.int 3), .val (.int 1), .val (.ref Ra)] [(.int 1), (.ref b10)])) rfl rfl (hb hby Lc) _ ?_
    refine XS.astore X20.here hx rfl (hb hby Mc) rfl rfl (l' := #[.val (.ref s0), .val (.ref b10), .val (.int 3), .val (.int 1), .val (.ref Pa)]) rfl ?_
    refine XS.aload X20.here hx rfl (hb hby Pc) rfl rfl ?_
    refine st24 _ ?_
    refine XS.aloadN X24.here hx rfl (hb hby Uc) rfl rfl ?_
    show Va p e below m T24 25 #[.val (.ref s0), .val (.ref b10), .val (.int 3), .val (.int 1), .val (.ref Pa)] [(.ref s0), (.ref Ka)] t
    refine st25.trans ?_
    refine XS.ifYes X25.here hx rfl (pc0 := 28) (pc' := 34) rfl (hb hby Wc) rfl ((if0 _ _).trans (teq (by decide : (0 : Int32) = (0 : Int32))).1) (by decide) (by decide) ?_
    refine XS.iinc X25.here hx rfl (hb hby Ld) rfl (l' := #[.val (.ref s0), .val (.ref b10), .val (.int 3), .val (.int ((1 : Int32) + (1 : Int32))), .val (.ref Pa)]) rfl ?_
    show Va p e below m T25 37 #[.val (.ref s0), .val (.ref b10), .val (.int 3), .val (.int ((1 : Int32) + (1 : Int32))), .val (.ref Pa)] [] t
    rw [show ((1 : Int32) + (1 : Int32)) = (2 : Int32) from by decide]
    refine XS.goto X25.here hx rfl (pc0 := 37) (pc' := 9) rfl (hb hby Md) (by decide) (by decide) ?_
    refine XS.iloadN X25.here hx rfl (hb hby Yb) rfl ?_
    refine XS.iloadN X25.here hx rfl (hb hby Vb) rfl ?_
    refine XS.icmpNo X25.here hx rfl (hb hby Wb) rfl (tlt (by decide : (2 : Int32) < (3 : Int32))).2.1 ?_
    show Va p e below m T25 14 #[.val (.ref s0), .val (.ref b10), .val (.int 3), .val (.int 2), .val (.ref Pa)] [] t
    refine XS.aloadN X25.here hx rfl (hb hby Ic) rfl rfl ?_
    refine XS.iloadN X25.here hx rfl (hb hby Kc) rfl ?_
    refine X25.aaload hx (j := (2 : Int32)) (v := (.ref Wa)) (by rw [hp25]; exact Ar26.1) (State.isArrayOf_alike hZ.alike Ar26.2.1) rfl Ar26.2.2 hin27 hat28 (g := (mkF m 16 #[.val (.ref s0), .val (.ref b10), .val (.int 3), .val (.int 2), .val (.ref Pa)] [(.int 2), (.ref b10)])) rfl rfl (hb hby Lc) _ ?_
    refine XS.astore X25.here hx rfl (hb hby Mc) rfl rfl (l' := #[.val (.ref s0), .val (.ref b10), .val (.int 3), .val (.int 2), .val (.ref Wa)]) rfl ?_
    refine XS.aload X25.here hx rfl (hb hby Pc) rfl rfl ?_
    refine st29 _ ?_
    refine XS.aloadN X29.here hx rfl (hb hby Uc) rfl rfl ?_
    refine st30.trans ?_
    show Va p e below m T30 28 #[.val (.ref s0), .val (.ref b10), .val (.int 3), .val (.int 2), .val (.ref Wa)] [(.int 1)] t
    refine XS.ifNo X30.here hx rfl (hb hby Wc) rfl ((if0 _ _).trans (feq (by decide : ¬ ((1 : Int32) = (0 : Int32)))).1) ?_
    refine XS.aload X30.here hx rfl (hb hby Kk) rfl rfl ?_
    exact k
  obtain ⟨fs, hr, hrun, hended, hW, hsame⟩ := X30.leave (v := some (.ref Wa)) (fun h => by rw [Bd.returns] at h; cases h)
  refine hNG ⟨_, _, k31 _ ?_, hrun, hended, _, _, rfl, ?_, ⟨_, rfl⟩, hW, hsame.mono (by decide) (by decide)⟩
  · exact retOut X30 hx (t := (.object "com/example/kwota/kwota/AdjustmentRequest$State")) Bd.returns rfl (Or.inr (Or.inr (Or.inr (Or.inr ⟨rfl, rfl, rfl⟩)))) (hb hby Lk) hr
  · show Yt Z s0 v0 kv z0 vs0 cs0 Ra Ya Pa Wa Ma Ga Ka Ba Ua Ha La Ia h0 n0 _ T30.heap _
    rw [hp30]
    exact ⟨rfl, N30, O10, K10⟩
theorem Yu (m : MethodId) (x0 : Addr)  : entryFrame m #[(.ref x0)] 5 = mkF m 0 #[.val (.ref x0), .unset, .unset, .unset, .unset] [] := by first | (simp [entryFrame, mkF, argsToLocals, Value.category]; done) | rfl
theorem Pl : decode prog_5_method_5_code 40 = .ok (.aconst_null, 1) := by decide +kernel
theorem Rl : decode prog_5_method_5_code 41 = .ok (.areturn, 1) := by decide +kernel
def Zt (Z : State) (s0 : Addr) (v0 : Addr) (kv : ClassId) (z0 : Int32) (vs0 : List Value) (cs0 : List Int32) (Ra : Addr) (Ya : Addr) (Pa : Addr) (Wa : Addr) (Ma : Addr) (Ga : Addr) (Ka : Addr) (Ba : Addr) (Ua : Addr) (Ha : Addr) (La : Int32) (Ia : Value) (h0 : Heap) (n0 : Nat) (v : Option Value) (h : Heap) (L : List Loc) : Prop := v = some .null ∧ Fr n0 L ∧ Old Z n0 h ∧ Keep h0 h []
set_option maxRecDepth 65536 in
set_option maxHeartbeats 40000000 in
theorem Zu (l : Launch) (Z : State) (a0 : Array Value) (hw : ∀ d ∈ tables_1, d.before a0 Z = true) (ws : List Jvm.Cond) (s0 : Addr) (v0 : Addr) (kv : ClassId) (z0 : Int32) (vs0 : List Value) (cs0 : List Int32) (Ra : Addr) (Ya : Addr) (Pa : Addr) (Wa : Addr) (Ma : Addr) (Ga : Addr) (Ka : Addr) (Ba : Addr) (Ua : Addr) (Ha : Addr) (La : Int32) (Ia : Value) (h0 : Heap) (n0 : Nat) (O0 : Old Z n0 h0) (hE : EV Z Ra Ya Pa Wa Ma Ga Ka Ba Ua Ha La Ia) (P0 : Exa Z h0 s0 "java/lang/String") (P1 : Fld Z h0 s0 "java/lang/String" "coder" "B" (.int 0)) (P2 : Fld Z h0 s0 "java/lang/String" "value" "[B" (.ref v0)) (P3 : Arv Z h0 v0 kv .byte z0 vs0 (.int 0)) (hcd : StrChars.Road.CodA cs0 0 z0 vs0) (hbd : ∀ c ∈ cs0, ¬ c < 0 ∧ ¬ (255 : Int32) < c) (hl2 : cs0.length ≤ 4000) (m0 : ¬ (cs0 = ([(112 : Int32), (101 : Int32), (110 : Int32), (100 : Int32), (105 : Int32), (110 : Int32), (103 : Int32)] : List Int32))) (m1 : ¬ (cs0 = ([(97 : Int32), (112 : Int32), (112 : Int32), (114 : Int32), (111 : Int32), (118 : Int32), (101 : Int32), (100 : Int32)] : List Int32))) (m2 : ¬ (cs0 = ([(100 : Int32), (101 : Int32), (110 : Int32), (105 : Int32), (101 : Int32), (100 : Int32)] : List Int32))) :
    MetFree l Mk (head1 (Jvm.Cond.code Mk prog_5_method_5_code 5 (some (.object "com/example/kwota/kwota/AdjustmentRequest$State")) :: ws) ({ frames := 2, cells := 1, slots := 3, locals := 28 } : Room)) (fun a U => a = #[(.ref s0)] ∧ Z.Warmed39 U.vm ∧ U.heap = h0) (fun _ _ _ _ _ => True) (fun _ U o U' => ∃ v L, o = .returned v ∧ Zt Z s0 v0 kv z0 vs0 cs0 Ra Ya Pa Wa Ma Ga Ka Ba Ua Ha La Ia h0 n0 v U'.heap L ∧ FrameEnd U o U' L ({ frames := 2, cells := 1, slots := 3, locals := 28 } : Room).cells ({ frames := 2, cells := 1, slots := 3, locals := 28 } : Room).slots) := by
  refine MetFree.of_bodySF (plainFor_of_name Ac) hisR ?_
  intro p e s m args below meth c s₁ Bd hml0 hP hK
  obtain ⟨rfl, hZ, hh⟩ := hP
  have hx := Bd.exec
  have hby := Bd.bytes
  have hml : c.maxLocals = 5 := hml0
  have hown : s.vm.findClass "com/example/kwota/kwota/AdjustmentRequest$State" = some m.cls := findClass_of_methodNamed Bd.named
  have hnm := (name_of_methodNamed Bd.named Bd.method).1
  have X00 : Stand p l e ({ frames := 2, cells := 1, slots := 3, locals := 28 } : Room) s m #[(.ref s0)] below meth c s₁ [] 0 0 := Stand.of_body Bd
  have e00 : s₁.heap = h0 := by rw [← hh, Bd.state]; rfl
  have N00 := Fr.nil n0
  refine Classical.byContradiction fun hNG => ?_
  have K00 := Keep.refl h0 []
  have k00 : ∀ t, Va p e below m s₁ 0 #[.val (.ref s0), .unset, .unset, .unset, .unset] [] t → Ab p e below m s₁ #[(.ref s0)] 5 t := fun t k => castTop (Yu m s0 ) k
  obtain ⟨Hh, Mh, Ih, Kh, Rg, Gh, Ki, Li, Dd, Zb, Lb, Mb, Ad, Bc, Pb, Rb, Pd, Hd, Dc, Gc, Bb, Za, Zc, Yc, Lh, Gb, Db, Hb⟩ := (id hE : EV Z Ra Ya Pa Wa Ma Ga Ka Ba Ua Ha La Ia)
  obtain ⟨kw_PENDING_word, Aw_PENDING_word⟩ := Gb.arv
  obtain ⟨kw_APPROVED_word, Aw_APPROVED_word⟩ := Db.arv
  obtain ⟨kw_DENIED_word, Aw_DENIED_word⟩ := Hb.arv
  obtain ⟨_, _, ⟨T10, L10, k10, n10⟩, -, X10, ⟨Lc10, hQ10, l10, y10, z10⟩, st10⟩ := Jvm.LawKit.callS X00 hx (y := Mp) hown (mvT hZ (Da hw 89 rfl)) (mvT hZ (Da hw 90 rfl)) (mvT hZ (Da hw 84 rfl)) (mvT hZ (Da hw 91 rfl)) (by decide) (backOf (W := 0) (Pp l Z a0 hw []  _ _ _ _ _ _ _ _ _ _ _ _ h0 n0 O0 hE  ) hZ (Da hw 91 rfl) (Da hw 84 rfl) (by decide) (by decide)) (g := (mkF m 0 #[.val (.ref s0), .unset, .unset, .unset, .unset] [])) rfl (by rw [hml]; rfl) (argsL := []) (rest := []) (lenOf Hc rfl) rfl (by show 2 * 0 + _ ≤ _; exact Nat.le_of_eq rfl) (hb hby Zh) (fun _ _ => ⟨rfl, e00, (by decide : 0 + 1 ≤ _), (by decide : 0 + 3 ≤ _)⟩)
  dsimp only [Pt.U, Pt.locs, Pt.cells, Pt.slots] at X10 l10 y10 z10 st10 hQ10
  subst l10 y10 z10
  obtain ⟨b10, k10, rfl, N10q, O10, Kc10, g_b10, gs_b10, F10_0⟩ := hQ10
  have N10 := Fr.app N00 N10q
  have K10 := K00.trans Kc10 (fun x hx => nomatch hx)
  have s_b10 := Nat.le_trans K00.1 gs_b10
  have lt_b10 := F10_0.lt
  obtain ⟨cl11, Ar11, q11, Sz11, Nn11, Hs11, Gf11⟩ := id F10_0
  obtain ⟨cl12, Ar12, q12, Sz12, Nn12, Hs12, Gf12⟩ := id F10_0
  have hin13 : ¬ ((0 : Int32) < 0 ∨ cl12.slots.size ≤ ((0 : Int32)).toNatClampNeg) := inb_of Sz12 ⟨by decide, by decide⟩
  have hat14 : cl12.slots[((0 : Int32)).toNatClampNeg]? = some (.ref Ra) := Hs12.at hin13 rfl
  obtain ⟨T15, X15, e15, st15⟩ := getF X10 hx hZ hown (host := "") (Or.inl (Da hw 106 rfl)) Via.refl rfl (Dd.ext O10.2) (g := (mkF m 21 #[.val (.ref s0), .val (.ref b10), .val (.int 3), .val (.int 0), .val (.ref Ra)] [(.ref Ra)])) rfl rfl (hb hby Rc)
  have f16 := (P0.keep Kc10)
  have f17 := (P2.keep Kc10 List.not_mem_nil)
  have f18 := (P1.keep Kc10 List.not_mem_nil)
  have f19 := (P3.keep Kc10 List.not_mem_nil)
  obtain ⟨cq20, kq20, q20a, q20b, q20c⟩ := isOf hZ e15 (Zb.ext O10.2)
  obtain ⟨_, _, ⟨T20, L20, k20, n20⟩, -, X20, ⟨Lc20, hQ20, l20, y20, z20⟩, st20⟩ := X15.virtualBack hx (y := Kd) (z := Kd) hown (mvT hZ (Da hw 108 rfl)) (mvT hZ (Da hw 75 rfl)) (notFace_of_selects (args := #[]) (mvT hZ (Da hw 77 rfl))) (mvT hZ (Da hw 77 rfl)) (mvT hZ (Da hw 76 rfl)) (by decide) (StrChars.Road.eqW (W := 0) hZ (Gj hw) (kI := 4) (Da hw 8 rfl) (Zb.ext O10.2) (Mb.ext O10.2) (Lb.ext O10.2) (Aw_PENDING_word.ext O10.2) Hj (Ie _ Mi) (Nat.le_of_ble_eq_true rfl) f16 f17 f18 f19 hcd (Ie _ hbd) hl2 (Bb.ext O10.2) Za (by decide) (by decide)) q20a q20c (g := (mkF m 25 #[.val (.ref s0), .val (.ref b10), .val (.int 3), .val (.int 0), .val (.ref Ra)] [(.ref s0), (.ref Ma)])) rfl (by rw [hml]; rfl) (Steps.refl _) (argsL := [(.ref s0)]) (rest := []) (lenOf Ib rfl) rfl (by show 2 * 0 + _ ≤ _; exact Nat.le_of_eq rfl) (hb hby Vc) (fun _ _ => ⟨rfl, e15, (by decide : 1 + 0 ≤ _), (by decide : 3 + 0 ≤ _)⟩)
  dsimp only [Pt.U, Pt.locs, Pt.cells, Pt.slots] at X20 l20 y20 z20 st20 hQ20
  subst l20 y20 z20
  obtain ⟨hcase20, rfl, hp20⟩ := hQ20
  have N20q : Fr n0 ([] : List Loc) := Fr.nil n0
  have hv20 : _ = some (Value.int 0) := hcase20.elim (fun q => absurd q.2 (fun q => m0 q.symm)) (fun q => q.1)
  subst hv20
  have N20 := Fr.app N10 N20q
  obtain ⟨cl21, Ar21, q21, Sz21, Nn21, Hs21, Gf21⟩ := id F10_0
  have hin22 : ¬ ((1 : Int32) < 0 ∨ cl21.slots.size ≤ ((1 : Int32)).toNatClampNeg) := inb_of Sz21 ⟨by decide, by decide⟩
  have hat23 : cl21.slots[((1 : Int32)).toNatClampNeg]? = some (.ref Pa) := Hs21.at hin22 rfl
  obtain ⟨T24, X24, e24, st24⟩ := getF X20 hx hZ hown (host := "") (Or.inl (Da hw 106 rfl)) Via.refl hp20 (Ad.ext O10.2) (g := (mkF m 21 #[.val (.ref s0), .val (.ref b10), .val (.int 3), .val (.int 1), .val (.ref Pa)] [(.ref Pa)])) rfl rfl (hb hby Rc)
  obtain ⟨cq25, kq25, q25a, q25b, q25c⟩ := isOf hZ e24 (Bc.ext O10.2)
  obtain ⟨_, _, ⟨T25, L25, k25, n25⟩, -, X25, ⟨Lc25, hQ25, l25, y25, z25⟩, st25⟩ := X24.virtualBack hx (y := Kd) (z := Kd) hown (mvT hZ (Da hw 108 rfl)) (mvT hZ (Da hw 75 rfl)) (notFace_of_selects (args := #[]) (mvT hZ (Da hw 77 rfl))) (mvT hZ (Da hw 77 rfl)) (mvT hZ (Da hw 76 rfl)) (by decide) (StrChars.Road.eqW (W := 0) hZ (Gj hw) (kI := 4) (Da hw 8 rfl) (Bc.ext O10.2) (Rb.ext O10.2) (Pb.ext O10.2) (Aw_APPROVED_word.ext O10.2) Uj (Ie _ Aj) (Nat.le_of_ble_eq_true rfl) f16 f17 f18 f19 hcd (Ie _ hbd) hl2 (Bb.ext O10.2) Za (by decide) (by decide)) q25a q25c (g := (mkF m 25 #[.val (.ref s0), .val (.ref b10), .val (.int 3), .val (.int 1), .val (.ref Pa)] [(.ref s0), (.ref Ka)])) rfl (by rw [hml]; rfl) (Steps.refl _) (argsL := [(.ref s0)]) (rest := []) (lenOf Ib rfl) rfl (by show 2 * 0 + _ ≤ _; exact Nat.le_of_eq rfl) (hb hby Vc) (fun _ _ => ⟨rfl, e24, (by decide : 1 + 0 ≤ _), (by decide : 3 + 0 ≤ _)⟩)
  dsimp only [Pt.U, Pt.locs, Pt.cells, Pt.slots] at X25 l25 y25 z25 st25 hQ25
  subst l25 y25 z25
  obtain ⟨hcase25, rfl, hp25⟩ := hQ25
  have N25q : Fr n0 ([] : List Loc) := Fr.nil n0
  have hv25 : _ = some (Value.int 0) := hcase25.elim (fun q => absurd q.2 (fun q => m1 q.symm)) (fun q => q.1)
  subst hv25
  have N25 := Fr.app N20 N25q
  obtain ⟨cl26, Ar26, q26, Sz26, Nn26, Hs26, Gf26⟩ := id F10_0
  have hin27 : ¬ ((2 : Int32) < 0 ∨ cl26.slots.size ≤ ((2 : Int32)).toNatClampNeg) := inb_of Sz26 ⟨by decide, by decide⟩
  have hat28 : cl26.slots[((2 : Int32)).toNatClampNeg]? = some (.ref Wa) := Hs26.at hin27 rfl
  obtain ⟨T29, X29, e29, st29⟩ := getF X25 hx hZ hown (host := "") (Or.inl (Da hw 106 rfl)) Via.refl hp25 (Pd.ext O10.2) (g := (mkF m 21 #[.val (.ref s0), .val (.ref b10), .val (.int 3), .val (.int 2), .val (.ref Wa)] [(.ref Wa)])) rfl rfl (hb hby Rc)
  obtain ⟨cq30, kq30, q30a, q30b, q30c⟩ := isOf hZ e29 (Hd.ext O10.2)
  obtain ⟨_, _, ⟨T30, L30, k30, n30⟩, -, X30, ⟨Lc30, hQ30, l30, y30, z30⟩, st30⟩ := X29.virtualBack hx (y := Kd) (z := Kd) hown (mvT hZ (Da hw 108 rfl)) (mvT hZ (Da hw 75 rfl)) (notFace_of_selects (args := #[]) (mvT hZ (Da hw 77 rfl))) (mvT hZ (Da hw 77 rfl)) (mvT hZ (Da hw 76 rfl)) (by decide) (StrChars.Road.eqW (W := 0) hZ (Gj hw) (kI := 4) (Da hw 8 rfl) (Hd.ext O10.2) (Gc.ext O10.2) (Dc.ext O10.2) (Aw_DENIED_word.ext O10.2) Ll (Ie _ Pk) (Nat.le_of_ble_eq_true rfl) f16 f17 f18 f19 hcd (Ie _ hbd) hl2 (Bb.ext O10.2) Za (by decide) (by decide)) q30a q30c (g := (mkF m 25 #[.val (.ref s0), .val (.ref b10), .val (.int 3), .val (.int 2), .val (.ref Wa)] [(.ref s0), (.ref Ua)])) rfl (by rw [hml]; rfl) (Steps.refl _) (argsL := [(.ref s0)]) (rest := []) (lenOf Ib rfl) rfl (by show 2 * 0 + _ ≤ _; exact Nat.le_of_eq rfl) (hb hby Vc) (fun _ _ => ⟨rfl, e29, (by decide : 1 + 0 ≤ _), (by decide : 3 + 0 ≤ _)⟩)
  dsimp only [Pt.U, Pt.locs, Pt.cells, Pt.slots] at X30 l30 y30 z30 st30 hQ30
  subst l30 y30 z30
  obtain ⟨hcase30, rfl, hp30⟩ := hQ30
  have N30q : Fr n0 ([] : List Loc) := Fr.nil n0
  have hv30 : _ = some (Value.int 0) := hcase30.elim (fun q => absurd q.2 (fun q => m2 q.symm)) (fun q => q.1)
  subst hv30
  have N30 := Fr.app N25 N30q
  have k31 : ∀ t, Va p e below m T30 41 #[.val (.ref s0), .val (.ref b10), .val (.int 3), .val (.int 3), .val (.ref Wa)] [.null] t → Ab p e below m s₁ #[(.ref s0)] 5 t := by
    intro t k
    refine k00 t ?_
    refine st10 _ ?_
    refine XS.astoreN X10.here hx rfl (hb hby Ai) rfl rfl (l' := #[.val (.ref s0), .val (.ref b10), .unset, .unset, .unset]) rfl ?_
    refine XS.aloadN X10.here hx rfl (hb hby Bi) rfl rfl ?_
    refine X10.arraylength hx (by exact Ar11.1) (State.isArrayOf_alike hZ.alike Ar11.2.1) (g := (mkF m 5 #[.val (.ref s0), .val (.ref b10), .unset, .unset, .unset] [(.ref b10)])) rfl rfl (hb hby Di) _ ?_
    rw [len_of Sz11 Nn11]
    refine XS.istoreN X10.here hx rfl (hb hby Gi) rfl (l' := #[.val (.ref s0), .val (.ref b10), .val (.int 3), .unset, .unset]) rfl ?_
    refine XS.iconst X10.here hx rfl (hb hby Hi) ?_
    refine XS.istoreN X10.here hx rfl (hb hby Ii) rfl (l' := #[.val (.ref s0), .val (.ref b10), .val (.int 3), .val (.int 0), .unset]) rfl ?_
    refine XS.iloadN X10.here hx rfl (hb hby Yb) rfl ?_
    show Va p e below m T10 10 #[.val (.ref s0), .val (.ref b10), .val (.int 3), .val (.int 0), .unset] [(.int 0)] t
    refine XS.iloadN X10.here hx rfl (hb hby Vb) rfl ?_
    refine XS.icmpNo X10.here hx rfl (hb hby Wb) rfl (tlt (by decide : (0 : Int32) < (3 : Int32))).2.1 ?_
    refine XS.aloadN X10.here hx rfl (hb hby Ic) rfl rfl ?_
    refine XS.iloadN X10.here hx rfl (hb hby Kc) rfl ?_
    refine X10.aaload hx (j := (0 : Int32)) (v := (.ref Ra)) (by exact Ar12.1) (State.isArrayOf_alike hZ.alike Ar12.2.1) rfl Ar12.2.2 hin13 hat14 (g := (mkF m 16 #[.val (.ref s0), .val (.ref b10), .val (.int 3), .val (.int 0), .unset] [(.int 0), (.ref b10)])) rfl rfl (hb hby Lc) _ ?_
    refine XS.astore X10.here hx rfl (hb hby Mc) rfl rfl (l' := #[.val (.ref s0), .val (.ref b10), .val (.int 3), .val (.int 0), .val (.ref Ra)]) rfl ?_
    refine XS.aload X10.here hx rfl (hb hby Pc) rfl rfl ?_
    refine st15 _ ?_
    show Va p e below m T15 24 #[.val (.ref s0), .val (.ref b10), .val (.int 3), .val (.int 0), .val (.ref Ra)] [(.ref Ma)] t
    refine XS.aloadN X15.here hx rfl (hb hby Uc) rfl rfl ?_
    refine st20.trans ?_
    refine XS.ifYes X20.here hx rfl (pc0 := 28) (pc' := 34) rfl (hb hby Wc) rfl ((if0 _ _).trans (teq (by decide : (0 : Int32) = (0 : Int32))).1) (by decide) (by decide) ?_
    refine XS.iinc X20.here hx rfl (hb hby Ld) rfl (l' := #[.val (.ref s0), .val (.ref b10), .val (.int 3), .val (.int ((0 : Int32) + (1 : Int32))), .val (.ref Ra)]) rfl ?_
    show Va p e below m T20 37 #[.val (.ref s0), .val (.ref b10), .val (.int 3), .val (.int ((0 : Int32) + (1 : Int32))), .val (.ref Ra)] [] t
    rw [show ((0 : Int32) + (1 : Int32)) = (1 : Int32) from by decide]
    refine XS.goto X20.here hx rfl (pc0 := 37) (pc' := 9) rfl (hb hby Md) (by decide) (by decide) ?_
    refine XS.iloadN X20.here hx rfl (hb hby Yb) rfl ?_
    refine XS.iloadN X20.here hx rfl (hb hby Vb) rfl ?_
    show Va p e below m T20 11 #[.val (.ref s0), .val (.ref b10), .val (.int 3), .val (.int 1), .val (.ref Ra)] [(.int 3), (.int 1)] t
    refine XS.icmpNo X20.here hx rfl (hb hby Wb) rfl (tlt (by decide : (1 : Int32) < (3 : Int32))).2.1 ?_
    refine XS.aloadN X20.here hx rfl (hb hby Ic) rfl rfl ?_
    refine XS.iloadN X20.here hx rfl (hb hby Kc) rfl ?_
    refine X20.aaload hx (j := (1 : Int32)) (v := (.ref Pa)) (by rw [hp20]; exact Ar21.1) (State.isArrayOf_alike hZ.alike Ar21.2.1) rfl Ar21.2.2 hin22 hat23 (g := (mkF m 16 #[.val (.ref s0), .val (.ref b10), .val (.int 3), .val (.int 1), .val (.ref Ra)] [(.int 1), (.ref b10)])) rfl rfl (hb hby Lc) _ ?_
    refine XS.astore X20.here hx rfl (hb hby Mc) rfl rfl (l' := #[.val (.ref s0), .val (.ref b10), .val (.int 3), .val (.int 1), .val (.ref Pa)]) rfl ?_
    refine XS.aload X20.here hx rfl (hb hby Pc) rfl rfl ?_
    refine st24 _ ?_
    refine XS.aloadN X24.here hx rfl (hb hby Uc) rfl rfl ?_
    show Va p e below m T24 25 #[.val (.ref s0), .val (.ref b10), .val (.int 3), .val (.int 1), .val (.ref Pa)] [(.ref s0), (.ref Ka)] t
    refine st25.trans ?_
    refine XS.ifYes X25.here hx rfl (pc0 := 28) (pc' := 34) rfl (hb hby Wc) rfl ((if0 _ _).trans (teq (by decide : (0 : Int32) = (0 : Int32))).1) (by decide) (by decide) ?_
    refine XS.iinc X25.here hx rfl (hb hby Ld) rfl (l' := #[.val (.ref s0), .val (.ref b10), .val (.int 3), .val (.int ((1 : Int32) + (1 : Int32))), .val (.ref Pa)]) rfl ?_
    show Va p e below m T25 37 #[.val (.ref s0), .val (.ref b10), .val (.int 3), .val (.int ((1 : Int32) + (1 : Int32))), .val (.ref Pa)] [] t
    rw [show ((1 : Int32) + (1 : Int32)) = (2 : Int32) from by decide]
    refine XS.goto X25.here hx rfl (pc0 := 37) (pc' := 9) rfl (hb hby Md) (by decide) (by decide) ?_
    refine XS.iloadN X25.here hx rfl (hb hby Yb) rfl ?_
    refine XS.iloadN X25.here hx rfl (hb hby Vb) rfl ?_
    refine XS.icmpNo X25.here hx rfl (hb hby Wb) rfl (tlt (by decide : (2 : Int32) < (3 : Int32))).2.1 ?_
    show Va p e below m T25 14 #[.val (.ref s0), .val (.ref b10), .val (.int 3), .val (.int 2), .val (.ref Pa)] [] t
    refine XS.aloadN X25.here hx rfl (hb hby Ic) rfl rfl ?_
    refine XS.iloadN X25.here hx rfl (hb hby Kc) rfl ?_
    refine X25.aaload hx (j := (2 : Int32)) (v := (.ref Wa)) (by rw [hp25]; exact Ar26.1) (State.isArrayOf_alike hZ.alike Ar26.2.1) rfl Ar26.2.2 hin27 hat28 (g := (mkF m 16 #[.val (.ref s0), .val (.ref b10), .val (.int 3), .val (.int 2), .val (.ref Pa)] [(.int 2), (.ref b10)])) rfl rfl (hb hby Lc) _ ?_
    refine XS.astore X25.here hx rfl (hb hby Mc) rfl rfl (l' := #[.val (.ref s0), .val (.ref b10), .val (.int 3), .val (.int 2), .val (.ref Wa)]) rfl ?_
    refine XS.aload X25.here hx rfl (hb hby Pc) rfl rfl ?_
    refine st29 _ ?_
    refine XS.aloadN X29.here hx rfl (hb hby Uc) rfl rfl ?_
    refine st30.trans ?_
    show Va p e below m T30 28 #[.val (.ref s0), .val (.ref b10), .val (.int 3), .val (.int 2), .val (.ref Wa)] [(.int 0)] t
    refine XS.ifYes X30.here hx rfl (pc0 := 28) (pc' := 34) rfl (hb hby Wc) rfl ((if0 _ _).trans (teq (by decide : (0 : Int32) = (0 : Int32))).1) (by decide) (by decide) ?_
    refine XS.iinc X30.here hx rfl (hb hby Ld) rfl (l' := #[.val (.ref s0), .val (.ref b10), .val (.int 3), .val (.int ((2 : Int32) + (1 : Int32))), .val (.ref Wa)]) rfl ?_
    show Va p e below m T30 37 #[.val (.ref s0), .val (.ref b10), .val (.int 3), .val (.int ((2 : Int32) + (1 : Int32))), .val (.ref Wa)] [] t
    rw [show ((2 : Int32) + (1 : Int32)) = (3 : Int32) from by decide]
    refine XS.goto X30.here hx rfl (pc0 := 37) (pc' := 9) rfl (hb hby Md) (by decide) (by decide) ?_
    refine XS.iloadN X30.here hx rfl (hb hby Yb) rfl ?_
    refine XS.iloadN X30.here hx rfl (hb hby Vb) rfl ?_
    refine XS.icmpYes X30.here hx rfl (pc0 := 11) (pc' := 40) rfl (hb hby Wb) rfl (flt (by decide : ¬ ((3 : Int32) < (3 : Int32)))).2.1 (by decide) (by decide) ?_
    refine XS.aconstNull X30.here hx rfl (hb hby Pl) ?_
    show Va p e below m T30 41 #[.val (.ref s0), .val (.ref b10), .val (.int 3), .val (.int 3), .val (.ref Wa)] [.null] t
    exact k
  obtain ⟨fs, hr, hrun, hended, hW, hsame⟩ := X30.leave (v := some .null) (fun h => by rw [Bd.returns] at h; cases h)
  refine hNG ⟨_, _, k31 _ ?_, hrun, hended, _, _, rfl, ?_, ⟨_, rfl⟩, hW, hsame.mono (by decide) (by decide)⟩
  · exact retOut X30 hx (t := (.object "com/example/kwota/kwota/AdjustmentRequest$State")) Bd.returns rfl (Or.inr (Or.inr (Or.inr (Or.inr ⟨rfl, rfl, rfl⟩)))) (hb hby Rl) hr
  · show Zt Z s0 v0 kv z0 vs0 cs0 Ra Ya Pa Wa Ma Ga Ka Ba Ua Ha La Ia h0 n0 _ T30.heap _
    rw [hp30]
    exact ⟨rfl, N30, O10, K10⟩
theorem Av (m : MethodId)   : entryFrame m #[.null] 5 = mkF m 0 #[.val .null, .unset, .unset, .unset, .unset] [] := by first | (simp [entryFrame, mkF, argsToLocals, Value.category]; done) | rfl
def Au (Z : State) (Ra : Addr) (Ya : Addr) (Pa : Addr) (Wa : Addr) (Ma : Addr) (Ga : Addr) (Ka : Addr) (Ba : Addr) (Ua : Addr) (Ha : Addr) (La : Int32) (Ia : Value) (h0 : Heap) (n0 : Nat) (v : Option Value) (h : Heap) (L : List Loc) : Prop := v = some .null ∧ Fr n0 L ∧ Old Z n0 h ∧ Keep h0 h []
set_option maxRecDepth 65536 in
set_option maxHeartbeats 40000000 in
theorem Bv (l : Launch) (Z : State) (a0 : Array Value) (hw : ∀ d ∈ tables_1, d.before a0 Z = true) (ws : List Jvm.Cond) (Ra : Addr) (Ya : Addr) (Pa : Addr) (Wa : Addr) (Ma : Addr) (Ga : Addr) (Ka : Addr) (Ba : Addr) (Ua : Addr) (Ha : Addr) (La : Int32) (Ia : Value) (h0 : Heap) (n0 : Nat) (O0 : Old Z n0 h0) (hE : EV Z Ra Ya Pa Wa Ma Ga Ka Ba Ua Ha La Ia) :
    MetFree l Mk (head1 (Jvm.Cond.code Mk prog_5_method_5_code 5 (some (.object "com/example/kwota/kwota/AdjustmentRequest$State")) :: ws) ({ frames := 2, cells := 1, slots := 3, locals := 25 } : Room)) (fun a U => a = #[.null] ∧ Z.Warmed39 U.vm ∧ U.heap = h0) (fun _ _ _ _ _ => True) (fun _ U o U' => ∃ v L, o = .returned v ∧ Au Z Ra Ya Pa Wa Ma Ga Ka Ba Ua Ha La Ia h0 n0 v U'.heap L ∧ FrameEnd U o U' L ({ frames := 2, cells := 1, slots := 3, locals := 25 } : Room).cells ({ frames := 2, cells := 1, slots := 3, locals := 25 } : Room).slots) := by
  refine MetFree.of_bodySF (plainFor_of_name Ac) hisR ?_
  intro p e s m args below meth c s₁ Bd hml0 hP hK
  obtain ⟨rfl, hZ, hh⟩ := hP
  have hx := Bd.exec
  have hby := Bd.bytes
  have hml : c.maxLocals = 5 := hml0
  have hown : s.vm.findClass "com/example/kwota/kwota/AdjustmentRequest$State" = some m.cls := findClass_of_methodNamed Bd.named
  have hnm := (name_of_methodNamed Bd.named Bd.method).1
  have X00 : Stand p l e ({ frames := 2, cells := 1, slots := 3, locals := 25 } : Room) s m #[.null] below meth c s₁ [] 0 0 := Stand.of_body Bd
  have e00 : s₁.heap = h0 := by rw [← hh, Bd.state]; rfl
  have N00 := Fr.nil n0
  refine Classical.byContradiction fun hNG => ?_
  have K00 := Keep.refl h0 []
  have k00 : ∀ t, Va p e below m s₁ 0 #[.val .null, .unset, .unset, .unset, .unset] [] t → Ab p e below m s₁ #[.null] 5 t := fun t k => castTop (Av m  ) k
  obtain ⟨Hh, Mh, Ih, Kh, Rg, Gh, Ki, Li, Dd, Zb, Lb, Mb, Ad, Bc, Pb, Rb, Pd, Hd, Dc, Gc, Bb, Za, Zc, Yc, Lh, Gb, Db, Hb⟩ := (id hE : EV Z Ra Ya Pa Wa Ma Ga Ka Ba Ua Ha La Ia)
  obtain ⟨kw_PENDING_word, Aw_PENDING_word⟩ := Gb.arv
  obtain ⟨kw_APPROVED_word, Aw_APPROVED_word⟩ := Db.arv
  obtain ⟨kw_DENIED_word, Aw_DENIED_word⟩ := Hb.arv
  obtain ⟨_, _, ⟨T10, L10, k10, n10⟩, -, X10, ⟨Lc10, hQ10, l10, y10, z10⟩, st10⟩ := Jvm.LawKit.callS X00 hx (y := Mp) hown (mvT hZ (Da hw 89 rfl)) (mvT hZ (Da hw 90 rfl)) (mvT hZ (Da hw 84 rfl)) (mvT hZ (Da hw 91 rfl)) (by decide) (backOf (W := 0) (Pp l Z a0 hw []  _ _ _ _ _ _ _ _ _ _ _ _ h0 n0 O0 hE  ) hZ (Da hw 91 rfl) (Da hw 84 rfl) (by decide) (by decide)) (g := (mkF m 0 #[.val .null, .unset, .unset, .unset, .unset] [])) rfl (by rw [hml]; rfl) (argsL := []) (rest := []) (lenOf Hc rfl) rfl (by show 2 * 0 + _ ≤ _; exact Nat.le_of_eq rfl) (hb hby Zh) (fun _ _ => ⟨rfl, e00, (by decide : 0 + 1 ≤ _), (by decide : 0 + 3 ≤ _)⟩)
  dsimp only [Pt.U, Pt.locs, Pt.cells, Pt.slots] at X10 l10 y10 z10 st10 hQ10
  subst l10 y10 z10
  obtain ⟨b10, k10, rfl, N10q, O10, Kc10, g_b10, gs_b10, F10_0⟩ := hQ10
  have N10 := Fr.app N00 N10q
  have K10 := K00.trans Kc10 (fun x hx => nomatch hx)
  have s_b10 := Nat.le_trans K00.1 gs_b10
  have lt_b10 := F10_0.lt
  obtain ⟨cl11, Ar11, q11, Sz11, Nn11, Hs11, Gf11⟩ := id F10_0
  obtain ⟨cl12, Ar12, q12, Sz12, Nn12, Hs12, Gf12⟩ := id F10_0
  have hin13 : ¬ ((0 : Int32) < 0 ∨ cl12.slots.size ≤ ((0 : Int32)).toNatClampNeg) := inb_of Sz12 ⟨by decide, by decide⟩
  have hat14 : cl12.slots[((0 : Int32)).toNatClampNeg]? = some (.ref Ra) := Hs12.at hin13 rfl
  obtain ⟨T15, X15, e15, st15⟩ := getF X10 hx hZ hown (host := "") (Or.inl (Da hw 106 rfl)) Via.refl rfl (Dd.ext O10.2) (g := (mkF m 21 #[.val .null, .val (.ref b10), .val (.int 3), .val (.int 0), .val (.ref Ra)] [(.ref Ra)])) rfl rfl (hb hby Rc)
  obtain ⟨cq16, kq16, q16a, q16b, q16c⟩ := isOf hZ e15 (Zb.ext O10.2)
  obtain ⟨_, _, ⟨T16, L16, k16, n16⟩, -, X16, ⟨Lc16, hQ16, l16, y16, z16⟩, st16⟩ := X15.virtualBack hx (y := Kd) (z := Kd) hown (mvT hZ (Da hw 108 rfl)) (mvT hZ (Da hw 75 rfl)) (notFace_of_selects (args := #[]) (mvT hZ (Da hw 77 rfl))) (mvT hZ (Da hw 77 rfl)) (mvT hZ (Da hw 76 rfl)) (by decide) (backOf (W := 0) (Iq l Z a0 hw []  _ _ _ _ _ _ _ _ _ _ _ _ T10.heap n0 O10 hE  ) hZ (Da hw 78 rfl) (Da hw 7 rfl) (by decide) (by decide)) q16a q16c (g := (mkF m 25 #[.val .null, .val (.ref b10), .val (.int 3), .val (.int 0), .val (.ref Ra)] [.null, (.ref Ma)])) rfl (by rw [hml]; rfl) (Steps.refl _) (argsL := [.null]) (rest := []) (lenOf Ib rfl) rfl (by show 2 * 0 + _ ≤ _; exact Nat.le_of_eq rfl) (hb hby Vc) (fun _ _ => ⟨rfl, e15, (by decide : 1 + 0 ≤ _), (by decide : 3 + 0 ≤ _)⟩)
  dsimp only [Pt.U, Pt.locs, Pt.cells, Pt.slots] at X16 l16 y16 z16 st16 hQ16
  subst l16 y16 z16
  obtain ⟨rfl, N16q, hp16⟩ := hQ16
  have N16 := Fr.app N10 N16q
  obtain ⟨cl17, Ar17, q17, Sz17, Nn17, Hs17, Gf17⟩ := id F10_0
  have hin18 : ¬ ((1 : Int32) < 0 ∨ cl17.slots.size ≤ ((1 : Int32)).toNatClampNeg) := inb_of Sz17 ⟨by decide, by decide⟩
  have hat19 : cl17.slots[((1 : Int32)).toNatClampNeg]? = some (.ref Pa) := Hs17.at hin18 rfl
  obtain ⟨T20, X20, e20, st20⟩ := getF X16 hx hZ hown (host := "") (Or.inl (Da hw 106 rfl)) Via.refl hp16 (Ad.ext O10.2) (g := (mkF m 21 #[.val .null, .val (.ref b10), .val (.int 3), .val (.int 1), .val (.ref Pa)] [(.ref Pa)])) rfl rfl (hb hby Rc)
  obtain ⟨cq21, kq21, q21a, q21b, q21c⟩ := isOf hZ e20 (Bc.ext O10.2)
  obtain ⟨_, _, ⟨T21, L21, k21, n21⟩, -, X21, ⟨Lc21, hQ21, l21, y21, z21⟩, st21⟩ := X20.virtualBack hx (y := Kd) (z := Kd) hown (mvT hZ (Da hw 108 rfl)) (mvT hZ (Da hw 75 rfl)) (notFace_of_selects (args := #[]) (mvT hZ (Da hw 77 rfl))) (mvT hZ (Da hw 77 rfl)) (mvT hZ (Da hw 76 rfl)) (by decide) (backOf (W := 0) (Up l Z a0 hw []  _ _ _ _ _ _ _ _ _ _ _ _ T10.heap n0 O10 hE  ) hZ (Da hw 78 rfl) (Da hw 7 rfl) (by decide) (by decide)) q21a q21c (g := (mkF m 25 #[.val .null, .val (.ref b10), .val (.int 3), .val (.int 1), .val (.ref Pa)] [.null, (.ref Ka)])) rfl (by rw [hml]; rfl) (Steps.refl _) (argsL := [.null]) (rest := []) (lenOf Ib rfl) rfl (by show 2 * 0 + _ ≤ _; exact Nat.le_of_eq rfl) (hb hby Vc) (fun _ _ => ⟨rfl, e20, (by decide : 1 + 0 ≤ _), (by decide : 3 + 0 ≤ _)⟩)
  dsimp only [Pt.U, Pt.locs, Pt.cells, Pt.slots] at X21 l21 y21 z21 st21 hQ21
  subst l21 y21 z21
  obtain ⟨rfl, N21q, hp21⟩ := hQ21
  have N21 := Fr.app N16 N21q
  obtain ⟨cl22, Ar22, q22, Sz22, Nn22, Hs22, Gf22⟩ := id F10_0
  have hin23 : ¬ ((2 : Int32) < 0 ∨ cl22.slots.size ≤ ((2 : Int32)).toNatClampNeg) := inb_of Sz22 ⟨by decide, by decide⟩
  have hat24 : cl22.slots[((2 : Int32)).toNatClampNeg]? = some (.ref Wa) := Hs22.at hin23 rfl
  obtain ⟨T25, X25, e25, st25⟩ := getF X21 hx hZ hown (host := "") (Or.inl (Da hw 106 rfl)) Via.refl hp21 (Pd.ext O10.2) (g := (mkF m 21 #[.val .null, .val (.ref b10), .val (.int 3), .val (.int 2), .val (.ref Wa)] [(.ref Wa)])) rfl rfl (hb hby Rc)
  obtain ⟨cq26, kq26, q26a, q26b, q26c⟩ := isOf hZ e25 (Hd.ext O10.2)
  obtain ⟨_, _, ⟨T26, L26, k26, n26⟩, -, X26, ⟨Lc26, hQ26, l26, y26, z26⟩, st26⟩ := X25.virtualBack hx (y := Kd) (z := Kd) hown (mvT hZ (Da hw 108 rfl)) (mvT hZ (Da hw 75 rfl)) (notFace_of_selects (args := #[]) (mvT hZ (Da hw 77 rfl))) (mvT hZ (Da hw 77 rfl)) (mvT hZ (Da hw 76 rfl)) (by decide) (backOf (W := 0) (Hs l Z a0 hw []  _ _ _ _ _ _ _ _ _ _ _ _ T10.heap n0 O10 hE  ) hZ (Da hw 78 rfl) (Da hw 7 rfl) (by decide) (by decide)) q26a q26c (g := (mkF m 25 #[.val .null, .val (.ref b10), .val (.int 3), .val (.int 2), .val (.ref Wa)] [.null, (.ref Ua)])) rfl (by rw [hml]; rfl) (Steps.refl _) (argsL := [.null]) (rest := []) (lenOf Ib rfl) rfl (by show 2 * 0 + _ ≤ _; exact Nat.le_of_eq rfl) (hb hby Vc) (fun _ _ => ⟨rfl, e25, (by decide : 1 + 0 ≤ _), (by decide : 3 + 0 ≤ _)⟩)
  dsimp only [Pt.U, Pt.locs, Pt.cells, Pt.slots] at X26 l26 y26 z26 st26 hQ26
  subst l26 y26 z26
  obtain ⟨rfl, N26q, hp26⟩ := hQ26
  have N26 := Fr.app N21 N26q
  have k27 : ∀ t, Va p e below m T26 41 #[.val .null, .val (.ref b10), .val (.int 3), .val (.int 3), .val (.ref Wa)] [.null] t → Ab p e below m s₁ #[.null] 5 t := by
    intro t k
    refine k00 t ?_
    refine st10 _ ?_
    refine XS.astoreN X10.here hx rfl (hb hby Ai) rfl rfl (l' := #[.val .null, .val (.ref b10), .unset, .unset, .unset]) rfl ?_
    refine XS.aloadN X10.here hx rfl (hb hby Bi) rfl rfl ?_
    refine X10.arraylength hx (by exact Ar11.1) (State.isArrayOf_alike hZ.alike Ar11.2.1) (g := (mkF m 5 #[.val .null, .val (.ref b10), .unset, .unset, .unset] [(.ref b10)])) rfl rfl (hb hby Di) _ ?_
    rw [len_of Sz11 Nn11]
    refine XS.istoreN X10.here hx rfl (hb hby Gi) rfl (l' := #[.val .null, .val (.ref b10), .val (.int 3), .unset, .unset]) rfl ?_
    refine XS.iconst X10.here hx rfl (hb hby Hi) ?_
    refine XS.istoreN X10.here hx rfl (hb hby Ii) rfl (l' := #[.val .null, .val (.ref b10), .val (.int 3), .val (.int 0), .unset]) rfl ?_
    refine XS.iloadN X10.here hx rfl (hb hby Yb) rfl ?_
    show Va p e below m T10 10 #[.val .null, .val (.ref b10), .val (.int 3), .val (.int 0), .unset] [(.int 0)] t
    refine XS.iloadN X10.here hx rfl (hb hby Vb) rfl ?_
    refine XS.icmpNo X10.here hx rfl (hb hby Wb) rfl (tlt (by decide : (0 : Int32) < (3 : Int32))).2.1 ?_
    refine XS.aloadN X10.here hx rfl (hb hby Ic) rfl rfl ?_
    refine XS.iloadN X10.here hx rfl (hb hby Kc) rfl ?_
    refine X10.aaload hx (j := (0 : Int32)) (v := (.ref Ra)) (by exact Ar12.1) (State.isArrayOf_alike hZ.alike Ar12.2.1) rfl Ar12.2.2 hin13 hat14 (g := (mkF m 16 #[.val .null, .val (.ref b10), .val (.int 3), .val (.int 0), .unset] [(.int 0), (.ref b10)])) rfl rfl (hb hby Lc) _ ?_
    refine XS.astore X10.here hx rfl (hb hby Mc) rfl rfl (l' := #[.val .null, .val (.ref b10), .val (.int 3), .val (.int 0), .val (.ref Ra)]) rfl ?_
    refine XS.aload X10.here hx rfl (hb hby Pc) rfl rfl ?_
    refine st15 _ ?_
    show Va p e below m T15 24 #[.val .null, .val (.ref b10), .val (.int 3), .val (.int 0), .val (.ref Ra)] [(.ref Ma)] t
    refine XS.aloadN X15.here hx rfl (hb hby Uc) rfl rfl ?_
    refine st16.trans ?_
    refine XS.ifYes X16.here hx rfl (pc0 := 28) (pc' := 34) rfl (hb hby Wc) rfl ((if0 _ _).trans (teq (by decide : (0 : Int32) = (0 : Int32))).1) (by decide) (by decide) ?_
    refine XS.iinc X16.here hx rfl (hb hby Ld) rfl (l' := #[.val .null, .val (.ref b10), .val (.int 3), .val (.int ((0 : Int32) + (1 : Int32))), .val (.ref Ra)]) rfl ?_
    show Va p e below m T16 37 #[.val .null, .val (.ref b10), .val (.int 3), .val (.int ((0 : Int32) + (1 : Int32))), .val (.ref Ra)] [] t
    rw [show ((0 : Int32) + (1 : Int32)) = (1 : Int32) from by decide]
    refine XS.goto X16.here hx rfl (pc0 := 37) (pc' := 9) rfl (hb hby Md) (by decide) (by decide) ?_
    refine XS.iloadN X16.here hx rfl (hb hby Yb) rfl ?_
    refine XS.iloadN X16.here hx rfl (hb hby Vb) rfl ?_
    show Va p e below m T16 11 #[.val .null, .val (.ref b10), .val (.int 3), .val (.int 1), .val (.ref Ra)] [(.int 3), (.int 1)] t
    refine XS.icmpNo X16.here hx rfl (hb hby Wb) rfl (tlt (by decide : (1 : Int32) < (3 : Int32))).2.1 ?_
    refine XS.aloadN X16.here hx rfl (hb hby Ic) rfl rfl ?_
    refine XS.iloadN X16.here hx rfl (hb hby Kc) rfl ?_
    refine X16.aaload hx (j := (1 : Int32)) (v := (.ref Pa)) (by rw [hp16]; exact Ar17.1) (State.isArrayOf_alike hZ.alike Ar17.2.1) rfl Ar17.2.2 hin18 hat19 (g := (mkF m 16 #[.val .null, .val (.ref b10), .val (.int 3), .val (.int 1), .val (.ref Ra)] [(.int 1), (.ref b10)])) rfl rfl (hb hby Lc) _ ?_
    refine XS.astore X16.here hx rfl (hb hby Mc) rfl rfl (l' := #[.val .null, .val (.ref b10), .val (.int 3), .val (.int 1), .val (.ref Pa)]) rfl ?_
    refine XS.aload X16.here hx rfl (hb hby Pc) rfl rfl ?_
    refine st20 _ ?_
    refine XS.aloadN X20.here hx rfl (hb hby Uc) rfl rfl ?_
    show Va p e below m T20 25 #[.val .null, .val (.ref b10), .val (.int 3), .val (.int 1), .val (.ref Pa)] [.null, (.ref Ka)] t
    refine st21.trans ?_
    refine XS.ifYes X21.here hx rfl (pc0 := 28) (pc' := 34) rfl (hb hby Wc) rfl ((if0 _ _).trans (teq (by decide : (0 : Int32) = (0 : Int32))).1) (by decide) (by decide) ?_
    refine XS.iinc X21.here hx rfl (hb hby Ld) rfl (l' := #[.val .null, .val (.ref b10), .val (.int 3), .val (.int ((1 : Int32) + (1 : Int32))), .val (.ref Pa)]) rfl ?_
    show Va p e below m T21 37 #[.val .null, .val (.ref b10), .val (.int 3), .val (.int ((1 : Int32) + (1 : Int32))), .val (.ref Pa)] [] t
    rw [show ((1 : Int32) + (1 : Int32)) = (2 : Int32) from by decide]
    refine XS.goto X21.here hx rfl (pc0 := 37) (pc' := 9) rfl (hb hby Md) (by decide) (by decide) ?_
    refine XS.iloadN X21.here hx rfl (hb hby Yb) rfl ?_
    refine XS.iloadN X21.here hx rfl (hb hby Vb) rfl ?_
    refine XS.icmpNo X21.here hx rfl (hb hby Wb) rfl (tlt (by decide : (2 : Int32) < (3 : Int32))).2.1 ?_
    show Va p e below m T21 14 #[.val .null, .val (.ref b10), .val (.int 3), .val (.int 2), .val (.ref Pa)] [] t
    refine XS.aloadN X21.here hx rfl (hb hby Ic) rfl rfl ?_
    refine XS.iloadN X21.here hx rfl (hb hby Kc) rfl ?_
    refine X21.aaload hx (j := (2 : Int32)) (v := (.ref Wa)) (by rw [hp21]; exact Ar22.1) (State.isArrayOf_alike hZ.alike Ar22.2.1) rfl Ar22.2.2 hin23 hat24 (g := (mkF m 16 #[.val .null, .val (.ref b10), .val (.int 3), .val (.int 2), .val (.ref Pa)] [(.int 2), (.ref b10)])) rfl rfl (hb hby Lc) _ ?_
    refine XS.astore X21.here hx rfl (hb hby Mc) rfl rfl (l' := #[.val .null, .val (.ref b10), .val (.int 3), .val (.int 2), .val (.ref Wa)]) rfl ?_
    refine XS.aload X21.here hx rfl (hb hby Pc) rfl rfl ?_
    refine st25 _ ?_
    refine XS.aloadN X25.here hx rfl (hb hby Uc) rfl rfl ?_
    refine st26.trans ?_
    show Va p e below m T26 28 #[.val .null, .val (.ref b10), .val (.int 3), .val (.int 2), .val (.ref Wa)] [(.int 0)] t
    refine XS.ifYes X26.here hx rfl (pc0 := 28) (pc' := 34) rfl (hb hby Wc) rfl ((if0 _ _).trans (teq (by decide : (0 : Int32) = (0 : Int32))).1) (by decide) (by decide) ?_
    refine XS.iinc X26.here hx rfl (hb hby Ld) rfl (l' := #[.val .null, .val (.ref b10), .val (.int 3), .val (.int ((2 : Int32) + (1 : Int32))), .val (.ref Wa)]) rfl ?_
    show Va p e below m T26 37 #[.val .null, .val (.ref b10), .val (.int 3), .val (.int ((2 : Int32) + (1 : Int32))), .val (.ref Wa)] [] t
    rw [show ((2 : Int32) + (1 : Int32)) = (3 : Int32) from by decide]
    refine XS.goto X26.here hx rfl (pc0 := 37) (pc' := 9) rfl (hb hby Md) (by decide) (by decide) ?_
    refine XS.iloadN X26.here hx rfl (hb hby Yb) rfl ?_
    refine XS.iloadN X26.here hx rfl (hb hby Vb) rfl ?_
    refine XS.icmpYes X26.here hx rfl (pc0 := 11) (pc' := 40) rfl (hb hby Wb) rfl (flt (by decide : ¬ ((3 : Int32) < (3 : Int32)))).2.1 (by decide) (by decide) ?_
    refine XS.aconstNull X26.here hx rfl (hb hby Pl) ?_
    show Va p e below m T26 41 #[.val .null, .val (.ref b10), .val (.int 3), .val (.int 3), .val (.ref Wa)] [.null] t
    exact k
  obtain ⟨fs, hr, hrun, hended, hW, hsame⟩ := X26.leave (v := some .null) (fun h => by rw [Bd.returns] at h; cases h)
  refine hNG ⟨_, _, k27 _ ?_, hrun, hended, _, _, rfl, ?_, ⟨_, rfl⟩, hW, hsame.mono (by decide) (by decide)⟩
  · exact retOut X26 hx (t := (.object "com/example/kwota/kwota/AdjustmentRequest$State")) Bd.returns rfl (Or.inr (Or.inr (Or.inr (Or.inr ⟨rfl, rfl, rfl⟩)))) (hb hby Rl) hr
  · show Au Z Ra Ya Pa Wa Ma Ga Ka Ba Ua Ha La Ia h0 n0 _ T26.heap _
    rw [hp26]
    exact ⟨rfl, N26, O10, K10⟩
theorem Il (p : Int32) : 0 ≤ ((p &&& (15 : Int32)) % (10 : Int32)).toInt ∧ ((p &&& (15 : Int32)) % (10 : Int32)).toInt ≤ 9 := by
  have e := c_mask p (15 : Int32) 4 (by decide) (by decide)
  have q := (c_irem (p &&& (15 : Int32)) (10 : Int32) 10 (by decide)).1 (by rw [e]; omega)
  omega
theorem Dv {n : Int32} (h : 0 ≤ n.toInt ∧ n.toInt ≤ 9) : n = (0 : Int32) ∨ n = (1 : Int32) ∨ n = (2 : Int32) ∨ n = (3 : Int32) ∨ n = (4 : Int32) ∨ n = (5 : Int32) ∨ n = (6 : Int32) ∨ n = (7 : Int32) ∨ n = (8 : Int32) ∨ n = (9 : Int32) := by
  have e0 : (0 : Int32).toInt = 0 := by decide
  have e1 : (1 : Int32).toInt = 1 := by decide
  have e2 : (2 : Int32).toInt = 2 := by decide
  have e3 : (3 : Int32).toInt = 3 := by decide
  have e4 : (4 : Int32).toInt = 4 := by decide
  have e5 : (5 : Int32).toInt = 5 := by decide
  have e6 : (6 : Int32).toInt = 6 := by decide
  have e7 : (7 : Int32).toInt = 7 := by decide
  have e8 : (8 : Int32).toInt = 8 := by decide
  have e9 : (9 : Int32).toInt = 9 := by decide
  simp only [← Int32.toInt_inj, e0, e1, e2, e3, e4, e5, e6, e7, e8, e9]
  omega
theorem Gv (p2 : Int32) : ((p2 &&& (15 : Int32)) % (9 : Int32)) = (0 : Int32) ∨ ((p2 &&& (15 : Int32)) % (9 : Int32)) = (1 : Int32) ∨ ((p2 &&& (15 : Int32)) % (9 : Int32)) = (2 : Int32) ∨ ((p2 &&& (15 : Int32)) % (9 : Int32)) = (3 : Int32) ∨ ((p2 &&& (15 : Int32)) % (9 : Int32)) = (4 : Int32) ∨ ((p2 &&& (15 : Int32)) % (9 : Int32)) = (5 : Int32) ∨ ((p2 &&& (15 : Int32)) % (9 : Int32)) = (6 : Int32) ∨ ((p2 &&& (15 : Int32)) % (9 : Int32)) = (7 : Int32) ∨ ((p2 &&& (15 : Int32)) % (9 : Int32)) = (8 : Int32) := by
  have e := c_mask p2 (15 : Int32) 4 (by decide) (by decide)
  have q := (c_irem (p2 &&& (15 : Int32)) (9 : Int32) 9 (by decide)).1 (by rw [e]; omega)
  have e0 : (0 : Int32).toInt = 0 := by decide
  have e1 : (1 : Int32).toInt = 1 := by decide
  have e2 : (2 : Int32).toInt = 2 := by decide
  have e3 : (3 : Int32).toInt = 3 := by decide
  have e4 : (4 : Int32).toInt = 4 := by decide
  have e5 : (5 : Int32).toInt = 5 := by decide
  have e6 : (6 : Int32).toInt = 6 := by decide
  have e7 : (7 : Int32).toInt = 7 := by decide
  have e8 : (8 : Int32).toInt = 8 := by decide
  simp only [← Int32.toInt_inj, q, e, e0, e1, e2, e3, e4, e5, e6, e7, e8]
  omega
theorem ef_law (m : MethodId) (x0 : Int32) (x1 : Int32) (x2 : Int32) (x3 : Int32) (x4 : Int64)  : entryFrame m #[(.int x0), (.int x1), (.int x2), (.int x3), (.long x4)] maxLocals = mkF m 0 #[.val (.int x0), .val (.int x1), .val (.int x2), .val (.int x3), .val (.long x4), .second, .unset, .unset, .unset, .unset, .unset, .unset] [] := by first | (simp [entryFrame, mkF, argsToLocals, Value.category, maxLocals]; done) | rfl
theorem Kb : parseMethodDescriptor "(Ljava/lang/String;)Lcom/example/kwota/kwota/AdjustmentRequest$State;" = some ⟨[(.object "java/lang/String")], some (.object "com/example/kwota/kwota/AdjustmentRequest$State")⟩ := by decide +kernel
theorem Al : parseMethodDescriptor "(IIJ)C" = some ⟨[.int, .int, .long], some .char⟩ := by decide +kernel
theorem Lo : parseMethodDescriptor "([CI)Ljava/lang/String;" = some ⟨[(.array .char), .int], some (.object "java/lang/String")⟩ := by decide +kernel
def Ks (Z : State) (p0 : Int32) (p1 : Int32) (p2 : Int32) (p3 : Int32) (p4 : Int64) (Ra : Addr) (Ya : Addr) (Pa : Addr) (Wa : Addr) (Ma : Addr) (Ga : Addr) (Ka : Addr) (Ba : Addr) (Ua : Addr) (Ha : Addr) (La : Int32) (Ia : Value) (h0 : Heap) (n0 : Nat) (v : Option Value) (h : Heap) (L : List Loc) : Prop := v = some (.int 1) ∧ Fr n0 L
set_option maxRecDepth 65536 in
set_option maxHeartbeats 40000000 in
theorem rm_law (l : Launch) (Z : State) (a0 : Array Value) (hw : ∀ d ∈ tables_1, d.before a0 Z = true) (ws : List Jvm.Cond) (p0 : Int32) (p1 : Int32) (p2 : Int32) (p3 : Int32) (p4 : Int64) (Ra : Addr) (Ya : Addr) (Pa : Addr) (Wa : Addr) (Ma : Addr) (Ga : Addr) (Ka : Addr) (Ba : Addr) (Ua : Addr) (Ha : Addr) (La : Int32) (Ia : Value) (h0 : Heap) (n0 : Nat) (O0 : Old Z n0 h0) (hE : EV Z Ra Ya Pa Wa Ma Ga Ka Ba Ua Ha La Ia) :
    MetFree l x (head1 (Jvm.Cond.code x code maxLocals ret :: ws) room_1) (fun a U => a = #[(.int p0), (.int p1), (.int p2), (.int p3), (.long p4)] ∧ Z.Warmed39 U.vm ∧ U.heap = h0 ∧ CHv Z Ub U.vm h0) (fun _ _ _ _ _ => True) (fun _ U o U' => ∃ v L, o = .returned v ∧ Ks Z p0 p1 p2 p3 p4 Ra Ya Pa Wa Ma Ga Ka Ba Ua Ha La Ia h0 n0 v U'.heap L ∧ ReturnedEndW U o U' L 32 454) := by
  refine MetFree.of_bodySF (plainFor_of_name Pg) hisR ?_
  intro p e s m args below meth c s₁ Bd hml0 hP hK
  obtain ⟨rfl, hZ, hh, hCH⟩ := hP
  have hx := Bd.exec
  have hby := Bd.bytes
  have hml : c.maxLocals = 12 := hml0
  have hown : s.vm.findClass "com/example/kwota/kwota/StateNamedPinLaw" = some m.cls := findClass_of_methodNamed Bd.named
  have hnm := (name_of_methodNamed Bd.named Bd.method).1
  have X00 : Stand p l e room_1 s m #[(.int p0), (.int p1), (.int p2), (.int p3), (.long p4)] below meth c s₁ [] 0 0 := Stand.of_body Bd
  have e00 : s₁.heap = h0 := by rw [← hh, Bd.state]; rfl
  have N00 := Fr.nil n0
  refine Classical.byContradiction fun hNG => ?_
  have K00 := Keep.refl h0 []
  have k00 : ∀ t, Va p e below m s₁ 0 #[.val (.int p0), .val (.int p1), .val (.int p2), .val (.int p3), .val (.long p4), .second, .unset, .unset, .unset, .unset, .unset, .unset] [] t → Ab p e below m s₁ #[(.int p0), (.int p1), (.int p2), (.int p3), (.long p4)] maxLocals t := fun t k => castTop (ef_law m p0 p1 p2 p3 p4 ) k
  have hS : s.Since s.vm 0 := (State.WarmedH.refl s).since 0
  have X00 : Stand p l e room_1 (s.setVm s.vm) m #[(.int p0), (.int p1), (.int p2), (.int p3), (.long p4)] below meth c s₁ [] 0 0 := X00
  have hZ : Z.Warmed39 (s.setVm s.vm).vm := hZ
  have hown : (s.setVm s.vm).vm.findClass "com/example/kwota/kwota/StateNamedPinLaw" = some m.cls := hown
  have CR0 : CHr Z Ub s.vm h0 s.vm h0 := CHr.refl hCH
  obtain ⟨Hh, Mh, Ih, Kh, Rg, Gh, Ki, Li, Dd, Zb, Lb, Mb, Ad, Bc, Pb, Rb, Pd, Hd, Dc, Gc, Bb, Za, Zc, Yc, Lh, Gb, Db, Hb⟩ := (id hE : EV Z Ra Ya Pa Wa Ma Ga Ka Ba Ua Ha La Ia)
  obtain ⟨kw_PENDING_word, Aw_PENDING_word⟩ := Gb.arv
  obtain ⟨kw_APPROVED_word, Aw_APPROVED_word⟩ := Db.arv
  obtain ⟨kw_DENIED_word, Aw_DENIED_word⟩ := Hb.arv
  have k10 : ∀ t, Va p e below m s₁ 11 #[.val (.int p0), .val (.int p1), .val (.int p2), .val (.int p3), .val (.long p4), .second, .val (.int ((p0 &&& (2147483647 : Int32)) % (5 : Int32))), .unset, .unset, .unset, .unset, .unset] [(.int 4), (.int ((p0 &&& (2147483647 : Int32)) % (5 : Int32)))] t → Ab p e below m s₁ #[(.int p0), (.int p1), (.int p2), (.int p3), (.long p4)] maxLocals t := by
    intro t k
    refine k00 t ?_
    refine XS.iloadN X00.here hx rfl (hb hby at_0) rfl ?_
    refine X00.ldcI hx hown (mvT hZ (Da hw 0 rfl)) rfl (hb hby at_1) ?_
    refine XS.iand X00.here hx rfl (hb hby at_3) rfl ?_
    refine XS.iconst X00.here hx rfl (hb hby at_4) ?_
    refine iremM X00 hx rfl (hb hby at_5) rfl (by decide) ?_
    refine XS.istore X00.here hx rfl (hb hby at_6) rfl (l' := #[.val (.int p0), .val (.int p1), .val (.int p2), .val (.int p3), .val (.long p4), .second, .val (.int ((p0 &&& (2147483647 : Int32)) % (5 : Int32))), .unset, .unset, .unset, .unset, .unset]) rfl ?_
    refine XS.iload X00.here hx rfl (hb hby at_8) rfl ?_
    refine XS.iconst X00.here hx rfl (hb hby at_10) ?_
    show Va p e below m s₁ 11 #[.val (.int p0), .val (.int p1), .val (.int p2), .val (.int p3), .val (.long p4), .second, .val (.int ((p0 &&& (2147483647 : Int32)) % (5 : Int32))), .unset, .unset, .unset, .unset, .unset] [(.int 4), (.int ((p0 &&& (2147483647 : Int32)) % (5 : Int32)))] t
    exact k
  by_cases hc11 : ((p0 &&& (2147483647 : Int32)) % (5 : Int32)) = (4 : Int32)
  · obtain ⟨_, _, ⟨T12, L12, k12, n12⟩, -, X12, ⟨Lc12, hQ12, l12, y12, z12⟩, st12⟩ := Jvm.LawKit.callS X00 hx (y := Mk) hown (mvT hZ (Da hw 86 rfl)) (mvT hZ (Da hw 87 rfl)) (mvT hZ (Da hw 84 rfl)) (mvT hZ (Da hw 88 rfl)) (by decide) (backOf (W := 0) (Bv l Z a0 hw []  _ _ _ _ _ _ _ _ _ _ _ _ h0 n0 O0 hE  ) hZ (Da hw 88 rfl) (Da hw 84 rfl) (by decide) (by decide)) (g := (mkF m 15 #[.val (.int p0), .val (.int p1), .val (.int p2), .val (.int p3), .val (.long p4), .second, .val (.int ((p0 &&& (2147483647 : Int32)) % (5 : Int32))), .unset, .unset, .unset, .unset, .unset] [.null])) rfl (by rw [hml]; rfl) (argsL := [.null]) (rest := []) (lenOf Kb rfl) rfl (by show 2 * 0 + _ ≤ _; exact Nat.le_of_eq rfl) (hb hby at_15) (fun _ _ => ⟨rfl, e00, (by decide : 0 + 1 ≤ _), (by decide : 0 + 3 ≤ _)⟩)
    dsimp only [Pt.U, Pt.locs, Pt.cells, Pt.slots] at X12 l12 y12 z12 st12 hQ12
    subst l12 y12 z12
    obtain ⟨rfl, N12q, O12, Kc12⟩ := hQ12
    have N12 := Fr.app N00 N12q
    have CR13 := CR0.trans (CHr.keep Kc12 all0 CR0.1)
    have K12 := K00.trans Kc12 (fun x hx => nomatch hx)
    have k14 : ∀ t, Va p e below m T12 26 #[.val (.int p0), .val (.int p1), .val (.int p2), .val (.int p3), .val (.long p4), .second, .val (.int ((p0 &&& (2147483647 : Int32)) % (5 : Int32))), .unset, .unset, .unset, .unset, .unset] [(.int 1)] t → Ab p e below m s₁ #[(.int p0), (.int p1), (.int p2), (.int p3), (.long p4)] maxLocals t := by
      intro t k
      refine k10 t ?_
      refine XS.icmpNo X00.here hx rfl (hb hby at_11) rfl (teq hc11).2 ?_
      refine XS.aconstNull X00.here hx rfl (hb hby at_14) ?_
      refine st12 _ ?_
      refine XS.ifnonnullNo X12.here hx rfl (hb hby at_18) rfl ?_
      refine XS.iconst X12.here hx rfl (hb hby at_21) ?_
      refine XS.goto X12.here hx rfl (pc0 := 22) (pc' := 26) rfl (hb hby at_22) (by decide) (by decide) ?_
      exact k
    obtain ⟨fs, hr, hrun, hended, hRW⟩ := X12.leaveW hS (by exact (Nat.le_trans (Nat.zero_le _) Kc12.1)) (v := some (.int 1)) (fun h => by rw [Bd.returns] at h; cases h)
    refine hNG ⟨_, _, k14 _ ?_, hrun, hended, _, _, rfl, ?_, hRW.1, hRW.2.1, hRW.2.2.1, hRW.2.2.2.mono (by decide) (by decide)⟩
    · exact retN X12 hx (t := .boolean) Bd.returns (by simp) (hb hby at_26) hr
    · show Ks Z p0 p1 p2 p3 p4 Ra Ya Pa Wa Ma Ga Ka Ba Ua Ha La Ia h0 n0 _ T12.heap _
      exact ⟨rfl, N12⟩
  · obtain ⟨T15, h15, c15, X15, e15, E15, A15, st15⟩ := newP X00 hx hZ (Da hw 1 rfl) e00 (g := (mkF m 29 #[.val (.int p0), .val (.int p1), .val (.int p2), .val (.int p3), .val (.long p4), .second, .val (.int ((p0 &&& (2147483647 : Int32)) % (5 : Int32))), .unset, .unset, .unset, .unset, .unset] [(.int 9)])) rfl (hb hby at_29) rfl (by decide) (cap := 9) (by decide) (by decide) (by decide) (by decide)
    obtain ⟨b15, g15⟩ : ∃ z, z = h0.size := ⟨_, rfl⟩
    have Sf15 : Safe Z Ub _ h15 b15 := Safe.ext E15 CR0.1 (Safe.new (Nat.le_of_eq g15.symm))
    have CR16 := CR0.trans (CHr.ext E15 CR0.1)
    rw [← g15] at A15 st15
    have O15 := O0.ext E15
    have g_b15 : n0 ≤ b15 := Nat.le_trans (Nat.le_of_eq O0.1.symm) (Nat.le_trans O0.2.1 (Nat.le_of_eq g15.symm))
    have s_b15 : h0.size ≤ b15 := Nat.le_trans K00.1 (Nat.le_of_eq g15.symm)
    have K15 := K00.ext E15
    have V15 : Arv Z h15 b15 c15 .char (9 : Int32) [(.int 0), (.int 0), (.int 0), (.int 0), (.int 0), (.int 0), (.int 0), (.int 0), (.int 0)] (.int 0) := (Arv.new A15 (by decide)).pad (pad_rep [] (.int 0) 9)
    have lt_b15 := V15.lt
    obtain ⟨_, _, ⟨T17, L17, k17, n17⟩, -, X17, hS17, hg17, ⟨Lc17, hQ17, l17, y17, z17, hC17⟩, st17⟩ := callSS X15 hx (y := Vl) hown (mvT hZ (Da hw 2 rfl)) (mvT hZ (Da hw 3 rfl)) (mvT hZ (Da hw 4 rfl)) (mvT hZ (Da hw 5 rfl)) (by decide) (backOfSH (W := 2) (Ro l Z a0 hw [] ((p0 &&& (2147483647 : Int32)) % (5 : Int32)) (0 : Int32) p4 _ _ _ _ _ _ _ _ _ _ _ _ h15 n0 O15 hE  (by decide)) hZ (Da hw 5 rfl) (Da hw 4 rfl) (by decide) (by decide) (Vd hw) CR16.1) (g := (mkF m 41 #[.val (.int p0), .val (.int p1), .val (.int p2), .val (.int p3), .val (.long p4), .second, .val (.int ((p0 &&& (2147483647 : Int32)) % (5 : Int32))), .val (.ref b15), .unset, .unset, .unset, .unset] [(.long p4), (.int 0), (.int ((p0 &&& (2147483647 : Int32)) % (5 : Int32))), (.int 0), (.ref b15)])) rfl (by rw [hml]; rfl) (argsL := [(.int ((p0 &&& (2147483647 : Int32)) % (5 : Int32))), (.int 0), (.long p4)]) (rest := [(.int 0), (.ref b15)]) (lenOf Al rfl) rfl (by show 2 * 0 + _ ≤ _; exact Nat.le_of_eq rfl) (hb hby at_41) (fun _ _ => ⟨rfl, e15, (by decide : 1 + 2 ≤ _), (by decide : 9 + 36 ≤ _)⟩)
    dsimp only [Pt.U, Pt.locs, Pt.cells, Pt.slots] at X17 l17 y17 z17 st17 hQ17 hS17 hg17 hC17
    subst l17 y17 z17
    obtain ⟨X17, hS, hZ, hown⟩ := rebS hS (by rw [e15]; exact (Nat.le_trans (Nat.zero_le _) E15.1)) X17 hS17 hg17 hZ hown
    obtain ⟨r17, rfl, N17q, O17, Kc17, D17_0⟩ := hQ17
    have N17 := Fr.app N00 N17q
    have CR18 := CR16.trans hC17
    have K17 := K15.trans Kc17 (fun x hx => nomatch hx)
    have f19 := (V15.keep Kc17 List.not_mem_nil)
    obtain ⟨cl20, Ar20, q20, Sz20, Nn20, Hs20, Gf20⟩ := id f19
    have hin21 : ¬ ((0 : Int32) < 0 ∨ cl20.slots.size ≤ ((0 : Int32)).toNatClampNeg) := inb_of Sz20 ⟨by decide, by decide⟩
    obtain ⟨T22, h22, X22, e22, W22, st22⟩ := stC X17 hx hZ rfl Ar20 (j := (0 : Int32)) hin21 (g := (mkF m 44 #[.val (.int p0), .val (.int p1), .val (.int p2), .val (.int p3), .val (.long p4), .second, .val (.int ((p0 &&& (2147483647 : Int32)) % (5 : Int32))), .val (.ref b15), .unset, .unset, .unset, .unset] [(.int r17), (.int 0), (.ref b15)])) rfl rfl (hb hby at_44)
    have V22 : Arv Z h22 b15 c15 .char (9 : Int32) [(.int r17), (.int 0), (.int 0), (.int 0), (.int 0), (.int 0), (.int 0), (.int 0), (.int 0)] (.int 0) := by
      have q := Arv.set Ar20 q20 Sz20 Nn20 Hs20 Gf20 (fits_nar_char _) W22 0 rfl (Nat.le_of_ble_eq_true rfl)
      first | exact q | (simp only [Aa D17_0] at q; exact q)
    have sf24 := (CHr.safe hC17 lt_b15 Sf15)
    have CR23 := CR18.trans (CHr.wr W22 sf24 CR18.1)
    have N22 := Fr.snoc X22 N17 g_b15
    have O22 := O17.wr W22 g_b15
    have K22 := K17.wr W22 (Or.inr s_b15)
    obtain ⟨_, _, ⟨T25, L25, k25, n25⟩, -, X25, hS25, hg25, ⟨Lc25, hQ25, l25, y25, z25, hC25⟩, st25⟩ := callSS X22 hx (y := Vl) hown (mvT hZ (Da hw 2 rfl)) (mvT hZ (Da hw 3 rfl)) (mvT hZ (Da hw 4 rfl)) (mvT hZ (Da hw 5 rfl)) (by decide) (backOfSH (W := 2) (Ro l Z a0 hw [] ((p0 &&& (2147483647 : Int32)) % (5 : Int32)) (1 : Int32) p4 _ _ _ _ _ _ _ _ _ _ _ _ h22 n0 O22 hE  (by decide)) hZ (Da hw 5 rfl) (Da hw 4 rfl) (by decide) (by decide) (Vd hw) CR23.1) (g := (mkF m 53 #[.val (.int p0), .val (.int p1), .val (.int p2), .val (.int p3), .val (.long p4), .second, .val (.int ((p0 &&& (2147483647 : Int32)) % (5 : Int32))), .val (.ref b15), .unset, .unset, .unset, .unset] [(.long p4), (.int 1), (.int ((p0 &&& (2147483647 : Int32)) % (5 : Int32))), (.int 1), (.ref b15)])) rfl (by rw [hml]; rfl) (argsL := [(.int ((p0 &&& (2147483647 : Int32)) % (5 : Int32))), (.int 1), (.long p4)]) (rest := [(.int 1), (.ref b15)]) (lenOf Al rfl) rfl (by show 2 * 0 + _ ≤ _; exact Nat.le_of_eq rfl) (hb hby at_53) (fun _ _ => ⟨rfl, e22, (by decide : 3 + 2 ≤ _), (by decide : 45 + 36 ≤ _)⟩)
    dsimp only [Pt.U, Pt.locs, Pt.cells, Pt.slots] at X25 l25 y25 z25 st25 hQ25 hS25 hg25 hC25
    subst l25 y25 z25
    obtain ⟨X25, hS, hZ, hown⟩ := rebS hS (by rw [e22]; exact (Nat.le_trans (Nat.le_refl _) (Keep.of_wr W22).1)) X25 hS25 hg25 hZ hown
    obtain ⟨r25, rfl, N25q, O25, Kc25, D25_0⟩ := hQ25
    have N25 := Fr.app N22 N25q
    have CR26 := CR23.trans hC25
    have K25 := K22.trans Kc25 (fun x hx => nomatch hx)
    have f27 := (V22.keep Kc25 List.not_mem_nil)
    obtain ⟨cl28, Ar28, q28, Sz28, Nn28, Hs28, Gf28⟩ := id f27
    have hin29 : ¬ ((1 : Int32) < 0 ∨ cl28.slots.size ≤ ((1 : Int32)).toNatClampNeg) := inb_of Sz28 ⟨by decide, by decide⟩
    obtain ⟨T30, h30, X30, e30, W30, st30⟩ := stC X25 hx hZ rfl Ar28 (j := (1 : Int32)) hin29 (g := (mkF m 56 #[.val (.int p0), .val (.int p1), .val (.int p2), .val (.int p3), .val (.long p4), .second, .val (.int ((p0 &&& (2147483647 : Int32)) % (5 : Int32))), .val (.ref b15), .unset, .unset, .unset, .unset] [(.int r25), (.int 1), (.ref b15)])) rfl rfl (hb hby at_56)
    have V30 : Arv Z h30 b15 c15 .char (9 : Int32) [(.int r17), (.int r25), (.int 0), (.int 0), (.int 0), (.int 0), (.int 0), (.int 0), (.int 0)] (.int 0) := by
      have q := Arv.set Ar28 q28 Sz28 Nn28 Hs28 Gf28 (fits_nar_char _) W30 1 rfl (Nat.le_of_ble_eq_true rfl)
      first | exact q | (simp only [Aa D25_0] at q; exact q)
    have sf32 := (CHr.safe hC25 (Nat.lt_of_lt_of_le (Nat.lt_of_lt_of_le lt_b15 Kc17.1) (Keep.of_wr W22).1) (Safe.wr W22 sf24 CR18.1 sf24))
    have CR31 := CR26.trans (CHr.wr W30 sf32 CR26.1)
    have N30 := Fr.snoc X30 N25 g_b15
    have O30 := O25.wr W30 g_b15
    have K30 := K25.wr W30 (Or.inr s_b15)
    obtain ⟨_, _, ⟨T33, L33, k33, n33⟩, -, X33, hS33, hg33, ⟨Lc33, hQ33, l33, y33, z33, hC33⟩, st33⟩ := callSS X30 hx (y := Vl) hown (mvT hZ (Da hw 2 rfl)) (mvT hZ (Da hw 3 rfl)) (mvT hZ (Da hw 4 rfl)) (mvT hZ (Da hw 5 rfl)) (by decide) (backOfSH (W := 2) (Ro l Z a0 hw [] ((p0 &&& (2147483647 : Int32)) % (5 : Int32)) (2 : Int32) p4 _ _ _ _ _ _ _ _ _ _ _ _ h30 n0 O30 hE  (by decide)) hZ (Da hw 5 rfl) (Da hw 4 rfl) (by decide) (by decide) (Vd hw) CR31.1) (g := (mkF m 65 #[.val (.int p0), .val (.int p1), .val (.int p2), .val (.int p3), .val (.long p4), .second, .val (.int ((p0 &&& (2147483647 : Int32)) % (5 : Int32))), .val (.ref b15), .unset, .unset, .unset, .unset] [(.long p4), (.int 2), (.int ((p0 &&& (2147483647 : Int32)) % (5 : Int32))), (.int 2), (.ref b15)])) rfl (by rw [hml]; rfl) (argsL := [(.int ((p0 &&& (2147483647 : Int32)) % (5 : Int32))), (.int 2), (.long p4)]) (rest := [(.int 2), (.ref b15)]) (lenOf Al rfl) rfl (by show 2 * 0 + _ ≤ _; exact Nat.le_of_eq rfl) (hb hby at_65) (fun _ _ => ⟨rfl, e30, (by decide : 5 + 2 ≤ _), (by decide : 81 + 36 ≤ _)⟩)
    dsimp only [Pt.U, Pt.locs, Pt.cells, Pt.slots] at X33 l33 y33 z33 st33 hQ33 hS33 hg33 hC33
    subst l33 y33 z33
    obtain ⟨X33, hS, hZ, hown⟩ := rebS hS (by rw [e30]; exact (Nat.le_trans (Nat.le_refl _) (Keep.of_wr W30).1)) X33 hS33 hg33 hZ hown
    obtain ⟨r33, rfl, N33q, O33, Kc33, D33_0⟩ := hQ33
    have N33 := Fr.app N30 N33q
    have CR34 := CR31.trans hC33
    have K33 := K30.trans Kc33 (fun x hx => nomatch hx)
    have f35 := (V30.keep Kc33 List.not_mem_nil)
    obtain ⟨cl36, Ar36, q36, Sz36, Nn36, Hs36, Gf36⟩ := id f35
    have hin37 : ¬ ((2 : Int32) < 0 ∨ cl36.slots.size ≤ ((2 : Int32)).toNatClampNeg) := inb_of Sz36 ⟨by decide, by decide⟩
    obtain ⟨T38, h38, X38, e38, W38, st38⟩ := stC X33 hx hZ rfl Ar36 (j := (2 : Int32)) hin37 (g := (mkF m 68 #[.val (.int p0), .val (.int p1), .val (.int p2), .val (.int p3), .val (.long p4), .second, .val (.int ((p0 &&& (2147483647 : Int32)) % (5 : Int32))), .val (.ref b15), .unset, .unset, .unset, .unset] [(.int r33), (.int 2), (.ref b15)])) rfl rfl (hb hby at_68)
    have V38 : Arv Z h38 b15 c15 .char (9 : Int32) [(.int r17), (.int r25), (.int r33), (.int 0), (.int 0), (.int 0), (.int 0), (.int 0), (.int 0)] (.int 0) := by
      have q := Arv.set Ar36 q36 Sz36 Nn36 Hs36 Gf36 (fits_nar_char _) W38 2 rfl (Nat.le_of_ble_eq_true rfl)
      first | exact q | (simp only [Aa D33_0] at q; exact q)
    have sf40 := (CHr.safe hC33 (Nat.lt_of_lt_of_le (Nat.lt_of_lt_of_le (Nat.lt_of_lt_of_le (Nat.lt_of_lt_of_le lt_b15 Kc17.1) (Keep.of_wr W22).1) Kc25.1) (Keep.of_wr W30).1) (Safe.wr W30 sf32 CR26.1 sf32))
    have CR39 := CR34.trans (CHr.wr W38 sf40 CR34.1)
    have N38 := Fr.snoc X38 N33 g_b15
    have O38 := O33.wr W38 g_b15
    have K38 := K33.wr W38 (Or.inr s_b15)
    obtain ⟨_, _, ⟨T41, L41, k41, n41⟩, -, X41, hS41, hg41, ⟨Lc41, hQ41, l41, y41, z41, hC41⟩, st41⟩ := callSS X38 hx (y := Vl) hown (mvT hZ (Da hw 2 rfl)) (mvT hZ (Da hw 3 rfl)) (mvT hZ (Da hw 4 rfl)) (mvT hZ (Da hw 5 rfl)) (by decide) (backOfSH (W := 2) (Ro l Z a0 hw [] ((p0 &&& (2147483647 : Int32)) % (5 : Int32)) (3 : Int32) p4 _ _ _ _ _ _ _ _ _ _ _ _ h38 n0 O38 hE  (by decide)) hZ (Da hw 5 rfl) (Da hw 4 rfl) (by decide) (by decide) (Vd hw) CR39.1) (g := (mkF m 77 #[.val (.int p0), .val (.int p1), .val (.int p2), .val (.int p3), .val (.long p4), .second, .val (.int ((p0 &&& (2147483647 : Int32)) % (5 : Int32))), .val (.ref b15), .unset, .unset, .unset, .unset] [(.long p4), (.int 3), (.int ((p0 &&& (2147483647 : Int32)) % (5 : Int32))), (.int 3), (.ref b15)])) rfl (by rw [hml]; rfl) (argsL := [(.int ((p0 &&& (2147483647 : Int32)) % (5 : Int32))), (.int 3), (.long p4)]) (rest := [(.int 3), (.ref b15)]) (lenOf Al rfl) rfl (by show 2 * 0 + _ ≤ _; exact Nat.le_of_eq rfl) (hb hby at_77) (fun _ _ => ⟨rfl, e38, (by decide : 7 + 2 ≤ _), (by decide : 117 + 36 ≤ _)⟩)
    dsimp only [Pt.U, Pt.locs, Pt.cells, Pt.slots] at X41 l41 y41 z41 st41 hQ41 hS41 hg41 hC41
    subst l41 y41 z41
    obtain ⟨X41, hS, hZ, hown⟩ := rebS hS (by rw [e38]; exact (Nat.le_trans (Nat.le_refl _) (Keep.of_wr W38).1)) X41 hS41 hg41 hZ hown
    obtain ⟨r41, rfl, N41q, O41, Kc41, D41_0⟩ := hQ41
    have N41 := Fr.app N38 N41q
    have CR42 := CR39.trans hC41
    have K41 := K38.trans Kc41 (fun x hx => nomatch hx)
    have f43 := (V38.keep Kc41 List.not_mem_nil)
    obtain ⟨cl44, Ar44, q44, Sz44, Nn44, Hs44, Gf44⟩ := id f43
    have hin45 : ¬ ((3 : Int32) < 0 ∨ cl44.slots.size ≤ ((3 : Int32)).toNatClampNeg) := inb_of Sz44 ⟨by decide, by decide⟩
    obtain ⟨T46, h46, X46, e46, W46, st46⟩ := stC X41 hx hZ rfl Ar44 (j := (3 : Int32)) hin45 (g := (mkF m 80 #[.val (.int p0), .val (.int p1), .val (.int p2), .val (.int p3), .val (.long p4), .second, .val (.int ((p0 &&& (2147483647 : Int32)) % (5 : Int32))), .val (.ref b15), .unset, .unset, .unset, .unset] [(.int r41), (.int 3), (.ref b15)])) rfl rfl (hb hby at_80)
    have V46 : Arv Z h46 b15 c15 .char (9 : Int32) [(.int r17), (.int r25), (.int r33), (.int r41), (.int 0), (.int 0), (.int 0), (.int 0), (.int 0)] (.int 0) := by
      have q := Arv.set Ar44 q44 Sz44 Nn44 Hs44 Gf44 (fits_nar_char _) W46 3 rfl (Nat.le_of_ble_eq_true rfl)
      first | exact q | (simp only [Aa D41_0] at q; exact q)
    have sf48 := (CHr.safe hC41 (Nat.lt_of_lt_of_le (Nat.lt_of_lt_of_le (Nat.lt_of_lt_of_le (Nat.lt_of_lt_of_le (Nat.lt_of_lt_of_le (Nat.lt_of_lt_of_le lt_b15 Kc17.1) (Keep.of_wr W22).1) Kc25.1) (Keep.of_wr W30).1) Kc33.1) (Keep.of_wr W38).1) (Safe.wr W38 sf40 CR34.1 sf40))
    have CR47 := CR42.trans (CHr.wr W46 sf48 CR42.1)
    have N46 := Fr.snoc X46 N41 g_b15
    have O46 := O41.wr W46 g_b15
    have K46 := K41.wr W46 (Or.inr s_b15)
    obtain ⟨_, _, ⟨T49, L49, k49, n49⟩, -, X49, hS49, hg49, ⟨Lc49, hQ49, l49, y49, z49, hC49⟩, st49⟩ := callSS X46 hx (y := Vl) hown (mvT hZ (Da hw 2 rfl)) (mvT hZ (Da hw 3 rfl)) (mvT hZ (Da hw 4 rfl)) (mvT hZ (Da hw 5 rfl)) (by decide) (backOfSH (W := 2) (Ro l Z a0 hw [] ((p0 &&& (2147483647 : Int32)) % (5 : Int32)) (4 : Int32) p4 _ _ _ _ _ _ _ _ _ _ _ _ h46 n0 O46 hE  (by decide)) hZ (Da hw 5 rfl) (Da hw 4 rfl) (by decide) (by decide) (Vd hw) CR47.1) (g := (mkF m 89 #[.val (.int p0), .val (.int p1), .val (.int p2), .val (.int p3), .val (.long p4), .second, .val (.int ((p0 &&& (2147483647 : Int32)) % (5 : Int32))), .val (.ref b15), .unset, .unset, .unset, .unset] [(.long p4), (.int 4), (.int ((p0 &&& (2147483647 : Int32)) % (5 : Int32))), (.int 4), (.ref b15)])) rfl (by rw [hml]; rfl) (argsL := [(.int ((p0 &&& (2147483647 : Int32)) % (5 : Int32))), (.int 4), (.long p4)]) (rest := [(.int 4), (.ref b15)]) (lenOf Al rfl) rfl (by show 2 * 0 + _ ≤ _; exact Nat.le_of_eq rfl) (hb hby at_89) (fun _ _ => ⟨rfl, e46, (by decide : 9 + 2 ≤ _), (by decide : 153 + 36 ≤ _)⟩)
    dsimp only [Pt.U, Pt.locs, Pt.cells, Pt.slots] at X49 l49 y49 z49 st49 hQ49 hS49 hg49 hC49
    subst l49 y49 z49
    obtain ⟨X49, hS, hZ, hown⟩ := rebS hS (by rw [e46]; exact (Nat.le_trans (Nat.le_refl _) (Keep.of_wr W46).1)) X49 hS49 hg49 hZ hown
    obtain ⟨r49, rfl, N49q, O49, Kc49, D49_0⟩ := hQ49
    have N49 := Fr.app N46 N49q
    have CR50 := CR47.trans hC49
    have K49 := K46.trans Kc49 (fun x hx => nomatch hx)
    have f51 := (V46.keep Kc49 List.not_mem_nil)
    obtain ⟨cl52, Ar52, q52, Sz52, Nn52, Hs52, Gf52⟩ := id f51
    have hin53 : ¬ ((4 : Int32) < 0 ∨ cl52.slots.size ≤ ((4 : Int32)).toNatClampNeg) := inb_of Sz52 ⟨by decide, by decide⟩
    obtain ⟨T54, h54, X54, e54, W54, st54⟩ := stC X49 hx hZ rfl Ar52 (j := (4 : Int32)) hin53 (g := (mkF m 92 #[.val (.int p0), .val (.int p1), .val (.int p2), .val (.int p3), .val (.long p4), .second, .val (.int ((p0 &&& (2147483647 : Int32)) % (5 : Int32))), .val (.ref b15), .unset, .unset, .unset, .unset] [(.int r49), (.int 4), (.ref b15)])) rfl rfl (hb hby at_92)
    have V54 : Arv Z h54 b15 c15 .char (9 : Int32) [(.int r17), (.int r25), (.int r33), (.int r41), (.int r49), (.int 0), (.int 0), (.int 0), (.int 0)] (.int 0) := by
      have q := Arv.set Ar52 q52 Sz52 Nn52 Hs52 Gf52 (fits_nar_char _) W54 4 rfl (Nat.le_of_ble_eq_true rfl)
      first | exact q | (simp only [Aa D49_0] at q; exact q)
    have sf56 := (CHr.safe hC49 (Nat.lt_of_lt_of_le (Nat.lt_of_lt_of_le (Nat.lt_of_lt_of_le (Nat.lt_of_lt_of_le (Nat.lt_of_lt_of_le (Nat.lt_of_lt_of_le (Nat.lt_of_lt_of_le (Nat.lt_of_lt_of_le lt_b15 Kc17.1) (Keep.of_wr W22).1) Kc25.1) (Keep.of_wr W30).1) Kc33.1) (Keep.of_wr W38).1) Kc41.1) (Keep.of_wr W46).1) (Safe.wr W46 sf48 CR42.1 sf48))
    have CR55 := CR50.trans (CHr.wr W54 sf56 CR50.1)
    have N54 := Fr.snoc X54 N49 g_b15
    have O54 := O49.wr W54 g_b15
    have K54 := K49.wr W54 (Or.inr s_b15)
    obtain ⟨_, _, ⟨T57, L57, k57, n57⟩, -, X57, hS57, hg57, ⟨Lc57, hQ57, l57, y57, z57, hC57⟩, st57⟩ := callSS X54 hx (y := Vl) hown (mvT hZ (Da hw 2 rfl)) (mvT hZ (Da hw 3 rfl)) (mvT hZ (Da hw 4 rfl)) (mvT hZ (Da hw 5 rfl)) (by decide) (backOfSH (W := 2) (Ro l Z a0 hw [] ((p0 &&& (2147483647 : Int32)) % (5 : Int32)) (5 : Int32) p4 _ _ _ _ _ _ _ _ _ _ _ _ h54 n0 O54 hE  (by decide)) hZ (Da hw 5 rfl) (Da hw 4 rfl) (by decide) (by decide) (Vd hw) CR55.1) (g := (mkF m 101 #[.val (.int p0), .val (.int p1), .val (.int p2), .val (.int p3), .val (.long p4), .second, .val (.int ((p0 &&& (2147483647 : Int32)) % (5 : Int32))), .val (.ref b15), .unset, .unset, .unset, .unset] [(.long p4), (.int 5), (.int ((p0 &&& (2147483647 : Int32)) % (5 : Int32))), (.int 5), (.ref b15)])) rfl (by rw [hml]; rfl) (argsL := [(.int ((p0 &&& (2147483647 : Int32)) % (5 : Int32))), (.int 5), (.long p4)]) (rest := [(.int 5), (.ref b15)]) (lenOf Al rfl) rfl (by show 2 * 0 + _ ≤ _; exact Nat.le_of_eq rfl) (hb hby at_101) (fun _ _ => ⟨rfl, e54, (by decide : 11 + 2 ≤ _), (by decide : 189 + 36 ≤ _)⟩)
    dsimp only [Pt.U, Pt.locs, Pt.cells, Pt.slots] at X57 l57 y57 z57 st57 hQ57 hS57 hg57 hC57
    subst l57 y57 z57
    obtain ⟨X57, hS, hZ, hown⟩ := rebS hS (by rw [e54]; exact (Nat.le_trans (Nat.le_refl _) (Keep.of_wr W54).1)) X57 hS57 hg57 hZ hown
    obtain ⟨r57, rfl, N57q, O57, Kc57, D57_0⟩ := hQ57
    have N57 := Fr.app N54 N57q
    have CR58 := CR55.trans hC57
    have K57 := K54.trans Kc57 (fun x hx => nomatch hx)
    have f59 := (V54.keep Kc57 List.not_mem_nil)
    obtain ⟨cl60, Ar60, q60, Sz60, Nn60, Hs60, Gf60⟩ := id f59
    have hin61 : ¬ ((5 : Int32) < 0 ∨ cl60.slots.size ≤ ((5 : Int32)).toNatClampNeg) := inb_of Sz60 ⟨by decide, by decide⟩
    obtain ⟨T62, h62, X62, e62, W62, st62⟩ := stC X57 hx hZ rfl Ar60 (j := (5 : Int32)) hin61 (g := (mkF m 104 #[.val (.int p0), .val (.int p1), .val (.int p2), .val (.int p3), .val (.long p4), .second, .val (.int ((p0 &&& (2147483647 : Int32)) % (5 : Int32))), .val (.ref b15), .unset, .unset, .unset, .unset] [(.int r57), (.int 5), (.ref b15)])) rfl rfl (hb hby at_104)
    have V62 : Arv Z h62 b15 c15 .char (9 : Int32) [(.int r17), (.int r25), (.int r33), (.int r41), (.int r49), (.int r57), (.int 0), (.int 0), (.int 0)] (.int 0) := by
      have q := Arv.set Ar60 q60 Sz60 Nn60 Hs60 Gf60 (fits_nar_char _) W62 5 rfl (Nat.le_of_ble_eq_true rfl)
      first | exact q | (simp only [Aa D57_0] at q; exact q)
    have sf64 := (CHr.safe hC57 (Nat.lt_of_lt_of_le (Nat.lt_of_lt_of_le (Nat.lt_of_lt_of_le (Nat.lt_of_lt_of_le (Nat.lt_of_lt_of_le (Nat.lt_of_lt_of_le (Nat.lt_of_lt_of_le (Nat.lt_of_lt_of_le (Nat.lt_of_lt_of_le (Nat.lt_of_lt_of_le lt_b15 Kc17.1) (Keep.of_wr W22).1) Kc25.1) (Keep.of_wr W30).1) Kc33.1) (Keep.of_wr W38).1) Kc41.1) (Keep.of_wr W46).1) Kc49.1) (Keep.of_wr W54).1) (Safe.wr W54 sf56 CR50.1 sf56))
    have CR63 := CR58.trans (CHr.wr W62 sf64 CR58.1)
    have N62 := Fr.snoc X62 N57 g_b15
    have O62 := O57.wr W62 g_b15
    have K62 := K57.wr W62 (Or.inr s_b15)
    obtain ⟨_, _, ⟨T65, L65, k65, n65⟩, -, X65, hS65, hg65, ⟨Lc65, hQ65, l65, y65, z65, hC65⟩, st65⟩ := callSS X62 hx (y := Vl) hown (mvT hZ (Da hw 2 rfl)) (mvT hZ (Da hw 3 rfl)) (mvT hZ (Da hw 4 rfl)) (mvT hZ (Da hw 5 rfl)) (by decide) (backOfSH (W := 2) (Ro l Z a0 hw [] ((p0 &&& (2147483647 : Int32)) % (5 : Int32)) (6 : Int32) p4 _ _ _ _ _ _ _ _ _ _ _ _ h62 n0 O62 hE  (by decide)) hZ (Da hw 5 rfl) (Da hw 4 rfl) (by decide) (by decide) (Vd hw) CR63.1) (g := (mkF m 115 #[.val (.int p0), .val (.int p1), .val (.int p2), .val (.int p3), .val (.long p4), .second, .val (.int ((p0 &&& (2147483647 : Int32)) % (5 : Int32))), .val (.ref b15), .unset, .unset, .unset, .unset] [(.long p4), (.int 6), (.int ((p0 &&& (2147483647 : Int32)) % (5 : Int32))), (.int 6), (.ref b15)])) rfl (by rw [hml]; rfl) (argsL := [(.int ((p0 &&& (2147483647 : Int32)) % (5 : Int32))), (.int 6), (.long p4)]) (rest := [(.int 6), (.ref b15)]) (lenOf Al rfl) rfl (by show 2 * 0 + _ ≤ _; exact Nat.le_of_eq rfl) (hb hby at_115) (fun _ _ => ⟨rfl, e62, (by decide : 13 + 2 ≤ _), (by decide : 225 + 36 ≤ _)⟩)
    dsimp only [Pt.U, Pt.locs, Pt.cells, Pt.slots] at X65 l65 y65 z65 st65 hQ65 hS65 hg65 hC65
    subst l65 y65 z65
    obtain ⟨X65, hS, hZ, hown⟩ := rebS hS (by rw [e62]; exact (Nat.le_trans (Nat.le_refl _) (Keep.of_wr W62).1)) X65 hS65 hg65 hZ hown
    obtain ⟨r65, rfl, N65q, O65, Kc65, D65_0⟩ := hQ65
    have N65 := Fr.app N62 N65q
    have CR66 := CR63.trans hC65
    have K65 := K62.trans Kc65 (fun x hx => nomatch hx)
    have f67 := (V62.keep Kc65 List.not_mem_nil)
    obtain ⟨cl68, Ar68, q68, Sz68, Nn68, Hs68, Gf68⟩ := id f67
    have hin69 : ¬ ((6 : Int32) < 0 ∨ cl68.slots.size ≤ ((6 : Int32)).toNatClampNeg) := inb_of Sz68 ⟨by decide, by decide⟩
    obtain ⟨T70, h70, X70, e70, W70, st70⟩ := stC X65 hx hZ rfl Ar68 (j := (6 : Int32)) hin69 (g := (mkF m 118 #[.val (.int p0), .val (.int p1), .val (.int p2), .val (.int p3), .val (.long p4), .second, .val (.int ((p0 &&& (2147483647 : Int32)) % (5 : Int32))), .val (.ref b15), .unset, .unset, .unset, .unset] [(.int r65), (.int 6), (.ref b15)])) rfl rfl (hb hby at_118)
    have V70 : Arv Z h70 b15 c15 .char (9 : Int32) [(.int r17), (.int r25), (.int r33), (.int r41), (.int r49), (.int r57), (.int r65), (.int 0), (.int 0)] (.int 0) := by
      have q := Arv.set Ar68 q68 Sz68 Nn68 Hs68 Gf68 (fits_nar_char _) W70 6 rfl (Nat.le_of_ble_eq_true rfl)
      first | exact q | (simp only [Aa D65_0] at q; exact q)
    have sf72 := (CHr.safe hC65 (Nat.lt_of_lt_of_le (Nat.lt_of_lt_of_le (Nat.lt_of_lt_of_le (Nat.lt_of_lt_of_le (Nat.lt_of_lt_of_le (Nat.lt_of_lt_of_le (Nat.lt_of_lt_of_le (Nat.lt_of_lt_of_le (Nat.lt_of_lt_of_le (Nat.lt_of_lt_of_le (Nat.lt_of_lt_of_le (Nat.lt_of_lt_of_le lt_b15 Kc17.1) (Keep.of_wr W22).1) Kc25.1) (Keep.of_wr W30).1) Kc33.1) (Keep.of_wr W38).1) Kc41.1) (Keep.of_wr W46).1) Kc49.1) (Keep.of_wr W54).1) Kc57.1) (Keep.of_wr W62).1) (Safe.wr W62 sf64 CR58.1 sf64))
    have CR71 := CR66.trans (CHr.wr W70 sf72 CR66.1)
    have N70 := Fr.snoc X70 N65 g_b15
    have O70 := O65.wr W70 g_b15
    have K70 := K65.wr W70 (Or.inr s_b15)
    obtain ⟨_, _, ⟨T73, L73, k73, n73⟩, -, X73, hS73, hg73, ⟨Lc73, hQ73, l73, y73, z73, hC73⟩, st73⟩ := callSS X70 hx (y := Vl) hown (mvT hZ (Da hw 2 rfl)) (mvT hZ (Da hw 3 rfl)) (mvT hZ (Da hw 4 rfl)) (mvT hZ (Da hw 5 rfl)) (by decide) (backOfSH (W := 2) (Ro l Z a0 hw [] ((p0 &&& (2147483647 : Int32)) % (5 : Int32)) (7 : Int32) p4 _ _ _ _ _ _ _ _ _ _ _ _ h70 n0 O70 hE  (by decide)) hZ (Da hw 5 rfl) (Da hw 4 rfl) (by decide) (by decide) (Vd hw) CR71.1) (g := (mkF m 129 #[.val (.int p0), .val (.int p1), .val (.int p2), .val (.int p3), .val (.long p4), .second, .val (.int ((p0 &&& (2147483647 : Int32)) % (5 : Int32))), .val (.ref b15), .unset, .unset, .unset, .unset] [(.long p4), (.int 7), (.int ((p0 &&& (2147483647 : Int32)) % (5 : Int32))), (.int 7), (.ref b15)])) rfl (by rw [hml]; rfl) (argsL := [(.int ((p0 &&& (2147483647 : Int32)) % (5 : Int32))), (.int 7), (.long p4)]) (rest := [(.int 7), (.ref b15)]) (lenOf Al rfl) rfl (by show 2 * 0 + _ ≤ _; exact Nat.le_of_eq rfl) (hb hby at_129) (fun _ _ => ⟨rfl, e70, (by decide : 15 + 2 ≤ _), (by decide : 261 + 36 ≤ _)⟩)
    dsimp only [Pt.U, Pt.locs, Pt.cells, Pt.slots] at X73 l73 y73 z73 st73 hQ73 hS73 hg73 hC73
    subst l73 y73 z73
    obtain ⟨X73, hS, hZ, hown⟩ := rebS hS (by rw [e70]; exact (Nat.le_trans (Nat.le_refl _) (Keep.of_wr W70).1)) X73 hS73 hg73 hZ hown
    obtain ⟨r73, rfl, N73q, O73, Kc73, D73_0⟩ := hQ73
    have N73 := Fr.app N70 N73q
    have CR74 := CR71.trans hC73
    have K73 := K70.trans Kc73 (fun x hx => nomatch hx)
    have f75 := (V70.keep Kc73 List.not_mem_nil)
    obtain ⟨cl76, Ar76, q76, Sz76, Nn76, Hs76, Gf76⟩ := id f75
    have hin77 : ¬ ((7 : Int32) < 0 ∨ cl76.slots.size ≤ ((7 : Int32)).toNatClampNeg) := inb_of Sz76 ⟨by decide, by decide⟩
    obtain ⟨T78, h78, X78, e78, W78, st78⟩ := stC X73 hx hZ rfl Ar76 (j := (7 : Int32)) hin77 (g := (mkF m 132 #[.val (.int p0), .val (.int p1), .val (.int p2), .val (.int p3), .val (.long p4), .second, .val (.int ((p0 &&& (2147483647 : Int32)) % (5 : Int32))), .val (.ref b15), .unset, .unset, .unset, .unset] [(.int r73), (.int 7), (.ref b15)])) rfl rfl (hb hby at_132)
    have V78 : Arv Z h78 b15 c15 .char (9 : Int32) [(.int r17), (.int r25), (.int r33), (.int r41), (.int r49), (.int r57), (.int r65), (.int r73), (.int 0)] (.int 0) := by
      have q := Arv.set Ar76 q76 Sz76 Nn76 Hs76 Gf76 (fits_nar_char _) W78 7 rfl (Nat.le_of_ble_eq_true rfl)
      first | exact q | (simp only [Aa D73_0] at q; exact q)
    have sf80 := (CHr.safe hC73 (Nat.lt_of_lt_of_le (Nat.lt_of_lt_of_le (Nat.lt_of_lt_of_le (Nat.lt_of_lt_of_le (Nat.lt_of_lt_of_le (Nat.lt_of_lt_of_le (Nat.lt_of_lt_of_le (Nat.lt_of_lt_of_le (Nat.lt_of_lt_of_le (Nat.lt_of_lt_of_le (Nat.lt_of_lt_of_le (Nat.lt_of_lt_of_le (Nat.lt_of_lt_of_le (Nat.lt_of_lt_of_le lt_b15 Kc17.1) (Keep.of_wr W22).1) Kc25.1) (Keep.of_wr W30).1) Kc33.1) (Keep.of_wr W38).1) Kc41.1) (Keep.of_wr W46).1) Kc49.1) (Keep.of_wr W54).1) Kc57.1) (Keep.of_wr W62).1) Kc65.1) (Keep.of_wr W70).1) (Safe.wr W70 sf72 CR66.1 sf72))
    have CR79 := CR74.trans (CHr.wr W78 sf80 CR74.1)
    have N78 := Fr.snoc X78 N73 g_b15
    have O78 := O73.wr W78 g_b15
    have K78 := K73.wr W78 (Or.inr s_b15)
    obtain ⟨_, _, ⟨T81, L81, k81, n81⟩, -, X81, hS81, hg81, ⟨Lc81, hQ81, l81, y81, z81, hC81⟩, st81⟩ := callSS X78 hx (y := Vl) hown (mvT hZ (Da hw 2 rfl)) (mvT hZ (Da hw 3 rfl)) (mvT hZ (Da hw 4 rfl)) (mvT hZ (Da hw 5 rfl)) (by decide) (backOfSH (W := 2) (Ro l Z a0 hw [] ((p0 &&& (2147483647 : Int32)) % (5 : Int32)) (8 : Int32) p4 _ _ _ _ _ _ _ _ _ _ _ _ h78 n0 O78 hE  (by decide)) hZ (Da hw 5 rfl) (Da hw 4 rfl) (by decide) (by decide) (Vd hw) CR79.1) (g := (mkF m 143 #[.val (.int p0), .val (.int p1), .val (.int p2), .val (.int p3), .val (.long p4), .second, .val (.int ((p0 &&& (2147483647 : Int32)) % (5 : Int32))), .val (.ref b15), .unset, .unset, .unset, .unset] [(.long p4), (.int 8), (.int ((p0 &&& (2147483647 : Int32)) % (5 : Int32))), (.int 8), (.ref b15)])) rfl (by rw [hml]; rfl) (argsL := [(.int ((p0 &&& (2147483647 : Int32)) % (5 : Int32))), (.int 8), (.long p4)]) (rest := [(.int 8), (.ref b15)]) (lenOf Al rfl) rfl (by show 2 * 0 + _ ≤ _; exact Nat.le_of_eq rfl) (hb hby at_143) (fun _ _ => ⟨rfl, e78, (by decide : 17 + 2 ≤ _), (by decide : 297 + 36 ≤ _)⟩)
    dsimp only [Pt.U, Pt.locs, Pt.cells, Pt.slots] at X81 l81 y81 z81 st81 hQ81 hS81 hg81 hC81
    subst l81 y81 z81
    obtain ⟨X81, hS, hZ, hown⟩ := rebS hS (by rw [e78]; exact (Nat.le_trans (Nat.le_refl _) (Keep.of_wr W78).1)) X81 hS81 hg81 hZ hown
    obtain ⟨r81, rfl, N81q, O81, Kc81, D81_0⟩ := hQ81
    have N81 := Fr.app N78 N81q
    have CR82 := CR79.trans hC81
    have K81 := K78.trans Kc81 (fun x hx => nomatch hx)
    have f83 := (V78.keep Kc81 List.not_mem_nil)
    obtain ⟨cl84, Ar84, q84, Sz84, Nn84, Hs84, Gf84⟩ := id f83
    have hin85 : ¬ ((8 : Int32) < 0 ∨ cl84.slots.size ≤ ((8 : Int32)).toNatClampNeg) := inb_of Sz84 ⟨by decide, by decide⟩
    obtain ⟨T86, h86, X86, e86, W86, st86⟩ := stC X81 hx hZ rfl Ar84 (j := (8 : Int32)) hin85 (g := (mkF m 146 #[.val (.int p0), .val (.int p1), .val (.int p2), .val (.int p3), .val (.long p4), .second, .val (.int ((p0 &&& (2147483647 : Int32)) % (5 : Int32))), .val (.ref b15), .unset, .unset, .unset, .unset] [(.int r81), (.int 8), (.ref b15)])) rfl rfl (hb hby at_146)
    have V86 : Arv Z h86 b15 c15 .char (9 : Int32) [(.int r17), (.int r25), (.int r33), (.int r41), (.int r49), (.int r57), (.int r65), (.int r73), (.int r81)] (.int 0) := by
      have q := Arv.set Ar84 q84 Sz84 Nn84 Hs84 Gf84 (fits_nar_char _) W86 8 rfl (Nat.le_of_ble_eq_true rfl)
      first | exact q | (simp only [Aa D81_0] at q; exact q)
    have sf88 := (CHr.safe hC81 (Nat.lt_of_lt_of_le (Nat.lt_of_lt_of_le (Nat.lt_of_lt_of_le (Nat.lt_of_lt_of_le (Nat.lt_of_lt_of_le (Nat.lt_of_lt_of_le (Nat.lt_of_lt_of_le (Nat.lt_of_lt_of_le (Nat.lt_of_lt_of_le (Nat.lt_of_lt_of_le (Nat.lt_of_lt_of_le (Nat.lt_of_lt_of_le (Nat.lt_of_lt_of_le (Nat.lt_of_lt_of_le (Nat.lt_of_lt_of_le (Nat.lt_of_lt_of_le lt_b15 Kc17.1) (Keep.of_wr W22).1) Kc25.1) (Keep.of_wr W30).1) Kc33.1) (Keep.of_wr W38).1) Kc41.1) (Keep.of_wr W46).1) Kc49.1) (Keep.of_wr W54).1) Kc57.1) (Keep.of_wr W62).1) Kc65.1) (Keep.of_wr W70).1) Kc73.1) (Keep.of_wr W78).1) (Safe.wr W78 sf80 CR74.1 sf80))
    have CR87 := CR82.trans (CHr.wr W86 sf88 CR82.1)
    have N86 := Fr.snoc X86 N81 g_b15
    have O86 := O81.wr W86 g_b15
    have K86 := K81.wr W86 (Or.inr s_b15)
    have k89 : ∀ t, Va p e below m T86 147 #[.val (.int p0), .val (.int p1), .val (.int p2), .val (.int p3), .val (.long p4), .second, .val (.int ((p0 &&& (2147483647 : Int32)) % (5 : Int32))), .val (.ref b15), .unset, .unset, .unset, .unset] [] t → Ab p e below m s₁ #[(.int p0), (.int p1), (.int p2), (.int p3), (.long p4)] maxLocals t := by
      intro t k
      refine k10 t ?_
      refine XS.icmpYes X00.here hx rfl (pc0 := 11) (pc' := 27) rfl (hb hby at_11) rfl (feq hc11).2 (by decide) (by decide) ?_
      refine XS.bipush X00.here hx rfl (hb hby at_27) ?_
      refine st15 _ ?_
      refine XS.astore X15.here hx rfl (hb hby at_31) rfl rfl (l' := #[.val (.int p0), .val (.int p1), .val (.int p2), .val (.int p3), .val (.long p4), .second, .val (.int ((p0 &&& (2147483647 : Int32)) % (5 : Int32))), .val (.ref b15), .unset, .unset, .unset, .unset]) rfl ?_
      refine XS.aload X15.here hx rfl (hb hby at_33) rfl rfl ?_
      refine XS.iconst X15.here hx rfl (hb hby at_35) ?_
      refine XS.iload X15.here hx rfl (hb hby at_36) rfl ?_
      refine XS.iconst X15.here hx rfl (hb hby at_38) ?_
      show Va p e below m T15 39 #[.val (.int p0), .val (.int p1), .val (.int p2), .val (.int p3), .val (.long p4), .second, .val (.int ((p0 &&& (2147483647 : Int32)) % (5 : Int32))), .val (.ref b15), .unset, .unset, .unset, .unset] [(.int 0), (.int ((p0 &&& (2147483647 : Int32)) % (5 : Int32))), (.int 0), (.ref b15)] t
      refine XS.lload X15.here hx rfl (hb hby at_39) rfl ?_
      refine st17.trans ?_
      refine st22 _ ?_
      refine XS.aload X22.here hx rfl (hb hby at_45) rfl rfl ?_
      refine XS.iconst X22.here hx rfl (hb hby at_47) ?_
      refine XS.iload X22.here hx rfl (hb hby at_48) rfl ?_
      refine XS.iconst X22.here hx rfl (hb hby at_50) ?_
      refine XS.lload X22.here hx rfl (hb hby at_51) rfl ?_
      show Va p e below m T22 53 #[.val (.int p0), .val (.int p1), .val (.int p2), .val (.int p3), .val (.long p4), .second, .val (.int ((p0 &&& (2147483647 : Int32)) % (5 : Int32))), .val (.ref b15), .unset, .unset, .unset, .unset] [(.long p4), (.int 1), (.int ((p0 &&& (2147483647 : Int32)) % (5 : Int32))), (.int 1), (.ref b15)] t
      refine st25.trans ?_
      refine st30 _ ?_
      refine XS.aload X30.here hx rfl (hb hby at_57) rfl rfl ?_
      refine XS.iconst X30.here hx rfl (hb hby at_59) ?_
      refine XS.iload X30.here hx rfl (hb hby at_60) rfl ?_
      refine XS.iconst X30.here hx rfl (hb hby at_62) ?_
      refine XS.lload X30.here hx rfl (hb hby at_63) rfl ?_
      refine st33.trans ?_
      show Va p e below m T33 68 #[.val (.int p0), .val (.int p1), .val (.int p2), .val (.int p3), .val (.long p4), .second, .val (.int ((p0 &&& (2147483647 : Int32)) % (5 : Int32))), .val (.ref b15), .unset, .unset, .unset, .unset] [(.int r33), (.int 2), (.ref b15)] t
      refine st38 _ ?_
      refine XS.aload X38.here hx rfl (hb hby at_69) rfl rfl ?_
      refine XS.iconst X38.here hx rfl (hb hby at_71) ?_
      refine XS.iload X38.here hx rfl (hb hby at_72) rfl ?_
      refine XS.iconst X38.here hx rfl (hb hby at_74) ?_
      refine XS.lload X38.here hx rfl (hb hby at_75) rfl ?_
      refine st41.trans ?_
      refine st46 _ ?_
      show Va p e below m T46 81 #[.val (.int p0), .val (.int p1), .val (.int p2), .val (.int p3), .val (.long p4), .second, .val (.int ((p0 &&& (2147483647 : Int32)) % (5 : Int32))), .val (.ref b15), .unset, .unset, .unset, .unset] [] t
      refine XS.aload X46.here hx rfl (hb hby at_81) rfl rfl ?_
      refine XS.iconst X46.here hx rfl (hb hby at_83) ?_
      refine XS.iload X46.here hx rfl (hb hby at_84) rfl ?_
      refine XS.iconst X46.here hx rfl (hb hby at_86) ?_
      refine XS.lload X46.here hx rfl (hb hby at_87) rfl ?_
      refine st49.trans ?_
      refine st54 _ ?_
      refine XS.aload X54.here hx rfl (hb hby at_93) rfl rfl ?_
      show Va p e below m T54 95 #[.val (.int p0), .val (.int p1), .val (.int p2), .val (.int p3), .val (.long p4), .second, .val (.int ((p0 &&& (2147483647 : Int32)) % (5 : Int32))), .val (.ref b15), .unset, .unset, .unset, .unset] [(.ref b15)] t
      refine XS.iconst X54.here hx rfl (hb hby at_95) ?_
      refine XS.iload X54.here hx rfl (hb hby at_96) rfl ?_
      refine XS.iconst X54.here hx rfl (hb hby at_98) ?_
      refine XS.lload X54.here hx rfl (hb hby at_99) rfl ?_
      refine st57.trans ?_
      refine st62 _ ?_
      refine XS.aload X62.here hx rfl (hb hby at_105) rfl rfl ?_
      refine XS.bipush X62.here hx rfl (hb hby at_107) ?_
      show Va p e below m T62 109 #[.val (.int p0), .val (.int p1), .val (.int p2), .val (.int p3), .val (.long p4), .second, .val (.int ((p0 &&& (2147483647 : Int32)) % (5 : Int32))), .val (.ref b15), .unset, .unset, .unset, .unset] [(.int 6), (.ref b15)] t
      refine XS.iload X62.here hx rfl (hb hby at_109) rfl ?_
      refine XS.bipush X62.here hx rfl (hb hby at_111) ?_
      refine XS.lload X62.here hx rfl (hb hby at_113) rfl ?_
      refine st65.trans ?_
      refine st70 _ ?_
      refine XS.aload X70.here hx rfl (hb hby at_119) rfl rfl ?_
      refine XS.bipush X70.here hx rfl (hb hby at_121) ?_
      refine XS.iload X70.here hx rfl (hb hby at_123) rfl ?_
      show Va p e below m T70 125 #[.val (.int p0), .val (.int p1), .val (.int p2), .val (.int p3), .val (.long p4), .second, .val (.int ((p0 &&& (2147483647 : Int32)) % (5 : Int32))), .val (.ref b15), .unset, .unset, .unset, .unset] [(.int ((p0 &&& (2147483647 : Int32)) % (5 : Int32))), (.int 7), (.ref b15)] t
      refine XS.bipush X70.here hx rfl (hb hby at_125) ?_
      refine XS.lload X70.here hx rfl (hb hby at_127) rfl ?_
      refine st73.trans ?_
      refine st78 _ ?_
      refine XS.aload X78.here hx rfl (hb hby at_133) rfl rfl ?_
      refine XS.bipush X78.here hx rfl (hb hby at_135) ?_
      refine XS.iload X78.here hx rfl (hb hby at_137) rfl ?_
      refine XS.bipush X78.here hx rfl (hb hby at_139) ?_
      show Va p e below m T78 141 #[.val (.int p0), .val (.int p1), .val (.int p2), .val (.int p3), .val (.long p4), .second, .val (.int ((p0 &&& (2147483647 : Int32)) % (5 : Int32))), .val (.ref b15), .unset, .unset, .unset, .unset] [(.int 8), (.int ((p0 &&& (2147483647 : Int32)) % (5 : Int32))), (.int 8), (.ref b15)] t
      refine XS.lload X78.here hx rfl (hb hby at_141) rfl ?_
      refine st81.trans ?_
      refine st86 _ ?_
      exact k
    have J90 : ∀ (vm90 : Vm) (kk90 : Nat) (T90 : State) (locs90 : List Loc) (h90 : Heap) (jb : Addr) (jkb : ClassId) (d0 : Int32) (d1 : Int32) (d2 : Int32) (d3 : Int32) (d4 : Int32) (d5 : Int32) (d6 : Int32) (d7 : Int32) (d8 : Int32) (hS : s.Since vm90 kk90) (hk90 : kk90 ≤ h90.size) (hZ : Z.Warmed39 (s.setVm vm90).vm) (hown : (s.setVm vm90).vm.findClass "com/example/kwota/kwota/StateNamedPinLaw" = some m.cls) (CR90 : CHr Z Ub s.vm h0 vm90 h90) (X90 : Stand p l e room_1 (s.setVm vm90) m #[(.int p0), (.int p1), (.int p2), (.int p3), (.long p4)] below meth c T90 locs90 19 333) (e90 : T90.heap = h90) (N90 : Fr n0 locs90) (O90 : Old Z n0 h90) (K90 : Keep h0 h90 []) (G90_0 : Arv Z h90 jb jkb .char (9 : Int32) [(.int d0), (.int d1), (.int d2), (.int d3), (.int d4), (.int d5), (.int d6), (.int d7), (.int d8)] (.int 0)) (g_jb : n0 ≤ jb) (s_jb : h0.size ≤ jb) (Sf_jb : Safe Z Ub vm90 h90 jb) (rd0 : ¬ d0 < 0 ∧ ¬ (255 : Int32) < d0) (rd1 : ¬ d1 < 0 ∧ ¬ (255 : Int32) < d1) (rd2 : ¬ d2 < 0 ∧ ¬ (255 : Int32) < d2) (rd3 : ¬ d3 < 0 ∧ ¬ (255 : Int32) < d3) (rd4 : ¬ d4 < 0 ∧ ¬ (255 : Int32) < d4) (rd5 : ¬ d5 < 0 ∧ ¬ (255 : Int32) < d5) (rd6 : ¬ d6 < 0 ∧ ¬ (255 : Int32) < d6) (rd7 : ¬ d7 < 0 ∧ ¬ (255 : Int32) < d7) (rd8 : ¬ d8 < 0 ∧ ¬ (255 : Int32) < d8) (k90 : ∀ t, Va p e below m T90 170 #[.val (.int p0), .val (.int p1), .val (.int p2), .val (.int p3), .val (.long p4), .second, .val (.int ((p0 &&& (2147483647 : Int32)) % (5 : Int32))), .val (.ref jb), .unset, .unset, .unset, .unset] [] t → Ab p e below m s₁ #[(.int p0), (.int p1), (.int p2), (.int p3), (.long p4)] maxLocals t), False := by
      intro vm90 kk90 T90 locs90 h90 jb jkb d0 d1 d2 d3 d4 d5 d6 d7 d8 hS hk90 hZ hown CR90 X90 e90 N90 O90 K90 G90_0 g_jb s_jb Sf_jb rd0 rd1 rd2 rd3 rd4 rd5 rd6 rd7 rd8 k90
      have lt_jb := G90_0.lt
      have J91 : ∀ (vm91 : Vm) (kk91 : Nat) (T91 : State) (locs91 : List Loc) (h91 : Heap) (jn : Int32) (jw : Int32) (hS : s.Since vm91 kk91) (hk91 : kk91 ≤ h91.size) (hZ : Z.Warmed39 (s.setVm vm91).vm) (hown : (s.setVm vm91).vm.findClass "com/example/kwota/kwota/StateNamedPinLaw" = some m.cls) (CR91 : CHr Z Ub s.vm h0 vm91 h91) (X91 : Stand p l e room_1 (s.setVm vm91) m #[(.int p0), (.int p1), (.int p2), (.int p3), (.long p4)] below meth c T91 locs91 19 333) (e91 : T91.heap = h91) (N91 : Fr n0 locs91) (O91 : Old Z n0 h91) (K91 : Keep h0 h91 []) (G91_0 : Arv Z h91 jb jkb .char (9 : Int32) [(.int d0), (.int d1), (.int d2), (.int d3), (.int d4), (.int d5), (.int d6), (.int d7), (.int d8)] (.int 0)) (hjn : 0 ≤ jn.toInt ∧ jn.toInt ≤ 9) (k91 : ∀ t, Va p e below m T91 232 #[.val (.int p0), .val (.int p1), .val (.int p2), .val (.int p3), .val (.long p4), .second, .val (.int ((p0 &&& (2147483647 : Int32)) % (5 : Int32))), .val (.ref jb), .val (.int jw), .val (.int jn), .unset, .unset] [] t → Ab p e below m s₁ #[(.int p0), (.int p1), (.int p2), (.int p3), (.long p4)] maxLocals t), False := by
        intro vm91 kk91 T91 locs91 h91 jn jw hS hk91 hZ hown CR91 X91 e91 N91 O91 K91 G91_0 hjn k91
        obtain ⟨_, _, ⟨T92, L92, k92, n92⟩, -, X92, hS92, hg92, ⟨Lc92, hQ92, l92, y92, z92, hC92⟩, st92⟩ := callSS X91 hx (y := Dt) hown (mvT hZ (Da hw 50 rfl)) (mvT hZ (Da hw 51 rfl)) (mvT hZ (Da hw 4 rfl)) (mvT hZ (Da hw 52 rfl)) (by decide) (backOfSH (W := 0) (rm_str l Z a0 hw [] jb jkb jn d0 d1 d2 d3 d4 d5 d6 d7 d8 _ _ _ _ _ _ _ _ _ _ _ _ h91 n0 O91 hE G91_0 rd0 rd1 rd2 rd3 rd4 rd5 rd6 rd7 rd8 (Dv hjn)) hZ (Da hw 52 rfl) (Da hw 4 rfl) (by decide) (by decide) (Vd hw) CR91.1) (g := (mkF m 236 #[.val (.int p0), .val (.int p1), .val (.int p2), .val (.int p3), .val (.long p4), .second, .val (.int ((p0 &&& (2147483647 : Int32)) % (5 : Int32))), .val (.ref jb), .val (.int jw), .val (.int jn), .unset, .unset] [(.int jn), (.ref jb)])) rfl (by rw [hml]; rfl) (argsL := [(.ref jb), (.int jn)]) (rest := []) (lenOf Lo rfl) rfl (by show 2 * 0 + _ ≤ _; exact Nat.le_of_eq rfl) (hb hby at_236) (fun _ _ => ⟨rfl, e91, (by decide : 19 + 6 ≤ _), (by decide : 333 + 22 ≤ _)⟩)
        dsimp only [Pt.U, Pt.locs, Pt.cells, Pt.slots] at X92 l92 y92 z92 st92 hQ92 hS92 hg92 hC92
        subst l92 y92 z92
        obtain ⟨X92, hS, hZ, hown⟩ := rebS hS (by rw [e91]; exact hk91) X92 hS92 hg92 hZ hown
        obtain ⟨b92, t92, k92, z92, vs92, cs92, rfl, N92q, O92, Kc92, g_b92, gs_b92, F92_0, F92_1, F92_2, F92_3, D92_0, D92_1, D92_2⟩ := hQ92
        have N92 := Fr.app N91 N92q
        have CR93 := CR91.trans hC92
        have K92 := K91.trans Kc92 (fun x hx => nomatch hx)
        have s_b92 := Nat.le_trans K91.1 gs_b92
        have lt_b92 := F92_0.lt
        have lt_t92 := F92_3.lt
        obtain ⟨a94, T94, h94, q94, t94, kb94, X94, e94, E94, hS, hk94, hZ, hown, Ex94, Fc94, Fv94, Av94, la94, lb94, hC94, -, hSf94, st94⟩ := ldcCH X92 hx hZ hown (Da hw 6 rfl) (Im hw) rfl hS (Nat.le_refl _) (Vd hw) (EL := Ub) (List.mem_of_getElem? (i := 0) rfl) CR93.1 (vs := [(.int 112), (.int 101), (.int 110), (.int 100), (.int 105), (.int 110), (.int 103)]) (z := (7 : Int32)) ⟨by decide, by decide⟩ (by decide) (by decide) (g := (mkF m 243 #[.val (.int p0), .val (.int p1), .val (.int p2), .val (.int p3), .val (.long p4), .second, .val (.int ((p0 &&& (2147483647 : Int32)) % (5 : Int32))), .val (.ref jb), .val (.int jw), .val (.int jn), .val (.ref b92), .unset] [(.ref b92)])) rfl (hb hby at_243) (n := 28) (by decide) (by decide) (by decide) (by decide)
        have CR95 := CR93.trans hC94
        have O94 := O92.ext E94
        have K94 := K92.ext E94
        have k96 : ∀ t, Va p e below m T94 245 #[.val (.int p0), .val (.int p1), .val (.int p2), .val (.int p3), .val (.long p4), .second, .val (.int ((p0 &&& (2147483647 : Int32)) % (5 : Int32))), .val (.ref jb), .val (.int jw), .val (.int jn), .val (.ref b92), .unset] [(.ref a94), (.ref b92)] t → Ab p e below m s₁ #[(.int p0), (.int p1), (.int p2), (.int p3), (.long p4)] maxLocals t := by
          intro t k
          refine k91 t ?_
          refine XS.aload X91.here hx rfl (hb hby at_232) rfl rfl ?_
          refine XS.iload X91.here hx rfl (hb hby at_234) rfl ?_
          refine st92.trans ?_
          refine XS.astore X92.here hx rfl (hb hby at_239) rfl rfl (l' := #[.val (.int p0), .val (.int p1), .val (.int p2), .val (.int p3), .val (.long p4), .second, .val (.int ((p0 &&& (2147483647 : Int32)) % (5 : Int32))), .val (.ref jb), .val (.int jw), .val (.int jn), .val (.ref b92), .unset]) rfl ?_
          refine XS.aload X92.here hx rfl (hb hby at_241) rfl rfl ?_
          refine st94 _ ?_
          exact k
        by_cases hc97 : cs92 = ([(112 : Int32), (101 : Int32), (110 : Int32), (100 : Int32), (105 : Int32), (110 : Int32), (103 : Int32)] : List Int32)
        · have f98 := (F92_0.ext E94)
          have f99 := (F92_2.ext E94)
          have f100 := (F92_1.ext E94)
          have f101 := (F92_3.ext E94)
          obtain ⟨cq102, kq102, q102a, q102b, q102c⟩ := isOf hZ e94 f98
          obtain ⟨_, _, ⟨T102, L102, k102, n102⟩, -, X102, ⟨Lc102, hQ102, l102, y102, z102⟩, st102⟩ := X94.virtualBack hx (y := Kd) (z := Kd) hown (mvT hZ (Da hw 74 rfl)) (mvT hZ (Da hw 75 rfl)) (notFace_of_selects (args := #[]) (mvT hZ (Da hw 77 rfl))) (mvT hZ (Da hw 77 rfl)) (mvT hZ (Da hw 76 rfl)) (by decide) (StrChars.Road.eqW (W := 0) hZ (Gj hw) (kI := 4) (Da hw 8 rfl) f98 f99 f100 f101 D92_0 (Ie _ D92_1) D92_2 Ex94 Fv94 Fc94 Av94 Hj (Ie _ Mi) (Nat.le_of_ble_eq_true rfl) (Bb.ext O94.2) Za (by decide) (by decide)) q102a q102c (g := (mkF m 245 #[.val (.int p0), .val (.int p1), .val (.int p2), .val (.int p3), .val (.long p4), .second, .val (.int ((p0 &&& (2147483647 : Int32)) % (5 : Int32))), .val (.ref jb), .val (.int jw), .val (.int jn), .val (.ref b92), .unset] [(.ref a94), (.ref b92)])) rfl (by rw [hml]; rfl) (Steps.refl _) (argsL := [(.ref a94)]) (rest := []) (lenOf Ib rfl) rfl (by show 2 * 0 + _ ≤ _; exact Nat.le_of_eq rfl) (hb hby at_245) (fun _ _ => ⟨rfl, e94, (by decide : 27 + 0 ≤ _), (by decide : 387 + 0 ≤ _)⟩)
          dsimp only [Pt.U, Pt.locs, Pt.cells, Pt.slots] at X102 l102 y102 z102 st102 hQ102
          subst l102 y102 z102
          obtain ⟨hcase102, rfl, hp102⟩ := hQ102
          have N102q : Fr n0 ([] : List Loc) := Fr.nil n0
          have hv102 : _ = some (Value.int 1) := hcase102.elim (fun q => q.1) (fun q => absurd hc97 q.2)
          subst hv102
          have N102 := Fr.app N92 N102q
          obtain ⟨T103, X103, e103, st103⟩ := getS2 X102 hx hZ hown (host := "") (Or.inl (Da hw 83 rfl)) Via.refl hp102 (Hh.ext O94.2) (g := (mkF m 251 #[.val (.int p0), .val (.int p1), .val (.int p2), .val (.int p3), .val (.long p4), .second, .val (.int ((p0 &&& (2147483647 : Int32)) % (5 : Int32))), .val (.ref jb), .val (.int jw), .val (.int jn), .val (.ref b92), .unset] [])) rfl (hb hby at_251)
          obtain ⟨_, _, ⟨T104, L104, k104, n104⟩, -, X104, ⟨Lc104, hQ104, l104, y104, z104⟩, st104⟩ := Jvm.LawKit.callS X103 hx (y := Mk) hown (mvT hZ (Da hw 86 rfl)) (mvT hZ (Da hw 87 rfl)) (mvT hZ (Da hw 84 rfl)) (mvT hZ (Da hw 88 rfl)) (by decide) (backOf (W := 0) (Pu l Z a0 hw [] b92 t92 k92 z92 vs92 cs92 _ _ _ _ _ _ _ _ _ _ _ _ h94 n0 O94 hE f98 f100 f99 f101 D92_0 D92_1 D92_2 hc97) hZ (Da hw 88 rfl) (Da hw 84 rfl) (by decide) (by decide)) (g := (mkF m 294 #[.val (.int p0), .val (.int p1), .val (.int p2), .val (.int p3), .val (.long p4), .second, .val (.int ((p0 &&& (2147483647 : Int32)) % (5 : Int32))), .val (.ref jb), .val (.int jw), .val (.int jn), .val (.ref b92), .val (.ref Ra)] [(.ref b92)])) rfl (by rw [hml]; rfl) (argsL := [(.ref b92)]) (rest := []) (lenOf Kb rfl) rfl (by show 2 * 0 + _ ≤ _; exact Nat.le_of_eq rfl) (hb hby at_294) (fun _ _ => ⟨rfl, e103, (by decide : 27 + 1 ≤ _), (by decide : 387 + 3 ≤ _)⟩)
          dsimp only [Pt.U, Pt.locs, Pt.cells, Pt.slots] at X104 l104 y104 z104 st104 hQ104
          subst l104 y104 z104
          obtain ⟨rfl, N104q, O104, Kc104⟩ := hQ104
          have N104 := Fr.app N102 N104q
          have CR105 := CR95.trans (CHr.keep Kc104 all0 CR95.1)
          have K104 := K94.trans Kc104 (fun x hx => nomatch hx)
          have k106 : ∀ t, Va p e below m T104 307 #[.val (.int p0), .val (.int p1), .val (.int p2), .val (.int p3), .val (.long p4), .second, .val (.int ((p0 &&& (2147483647 : Int32)) % (5 : Int32))), .val (.ref jb), .val (.int jw), .val (.int jn), .val (.ref b92), .val (.ref Ra)] [(.int 1)] t → Ab p e below m s₁ #[(.int p0), (.int p1), (.int p2), (.int p3), (.long p4)] maxLocals t := by
            intro t k
            refine k96 t ?_
            refine st102.trans ?_
            refine XS.ifNo X102.here hx rfl (hb hby at_248) rfl ((if0 _ _).trans (feq (by decide : ¬ ((1 : Int32) = (0 : Int32)))).1) ?_
            refine st103 _ ?_
            refine XS.goto X103.here hx rfl (pc0 := 254) (pc' := 290) rfl (hb hby at_254) (by decide) (by decide) ?_
            refine XS.astore X103.here hx rfl (hb hby at_290) rfl rfl (l' := #[.val (.int p0), .val (.int p1), .val (.int p2), .val (.int p3), .val (.long p4), .second, .val (.int ((p0 &&& (2147483647 : Int32)) % (5 : Int32))), .val (.ref jb), .val (.int jw), .val (.int jn), .val (.ref b92), .val (.ref Ra)]) rfl ?_
            refine XS.aload X103.here hx rfl (hb hby at_292) rfl rfl ?_
            refine st104 _ ?_
            refine XS.aload X104.here hx rfl (hb hby at_297) rfl rfl ?_
            show Va p e below m T104 299 #[.val (.int p0), .val (.int p1), .val (.int p2), .val (.int p3), .val (.long p4), .second, .val (.int ((p0 &&& (2147483647 : Int32)) % (5 : Int32))), .val (.ref jb), .val (.int jw), .val (.int jn), .val (.ref b92), .val (.ref Ra)] [(.ref Ra), (.ref Ra)] t
            refine Jvm.RoadKit.acmp (g := (mkF m 299 #[.val (.int p0), .val (.int p1), .val (.int p2), .val (.int p3), .val (.long p4), .second, .val (.int ((p0 &&& (2147483647 : Int32)) % (5 : Int32))), .val (.ref jb), .val (.int jw), .val (.int jn), .val (.ref b92), .val (.ref Ra)] [(.ref Ra), (.ref Ra)])) X104 hx rfl rfl rfl (pc0 := 299) (pc' := 302) (same := true) rfl (hb hby at_299) rfl (decide_eq_true rfl) (by decide) (by decide) ?_
            refine XS.iconst X104.here hx rfl (hb hby at_302) ?_
            refine XS.goto X104.here hx rfl (pc0 := 303) (pc' := 307) rfl (hb hby at_303) (by decide) (by decide) ?_
            exact k
          obtain ⟨fs, hr, hrun, hended, hRW⟩ := X104.leaveW hS (by exact (Nat.le_trans hk94 Kc104.1)) (v := some (.int 1)) (fun h => by rw [Bd.returns] at h; cases h)
          refine hNG ⟨_, _, k106 _ ?_, hrun, hended, _, _, rfl, ?_, hRW.1, hRW.2.1, hRW.2.2.1, hRW.2.2.2.mono (by decide) (by decide)⟩
          · exact retN X104 hx (t := .boolean) Bd.returns (by simp) (hb hby at_307) hr
          · show Ks Z p0 p1 p2 p3 p4 Ra Ya Pa Wa Ma Ga Ka Ba Ua Ha La Ia h0 n0 _ T104.heap _
            exact ⟨rfl, N104⟩
        · have f107 := (F92_0.ext E94)
          have f108 := (F92_2.ext E94)
          have f109 := (F92_1.ext E94)
          have f110 := (F92_3.ext E94)
          obtain ⟨cq111, kq111, q111a, q111b, q111c⟩ := isOf hZ e94 f107
          obtain ⟨_, _, ⟨T111, L111, k111, n111⟩, -, X111, ⟨Lc111, hQ111, l111, y111, z111⟩, st111⟩ := X94.virtualBack hx (y := Kd) (z := Kd) hown (mvT hZ (Da hw 74 rfl)) (mvT hZ (Da hw 75 rfl)) (notFace_of_selects (args := #[]) (mvT hZ (Da hw 77 rfl))) (mvT hZ (Da hw 77 rfl)) (mvT hZ (Da hw 76 rfl)) (by decide) (StrChars.Road.eqW (W := 0) hZ (Gj hw) (kI := 4) (Da hw 8 rfl) f107 f108 f109 f110 D92_0 (Ie _ D92_1) D92_2 Ex94 Fv94 Fc94 Av94 Hj (Ie _ Mi) (Nat.le_of_ble_eq_true rfl) (Bb.ext O94.2) Za (by decide) (by decide)) q111a q111c (g := (mkF m 245 #[.val (.int p0), .val (.int p1), .val (.int p2), .val (.int p3), .val (.long p4), .second, .val (.int ((p0 &&& (2147483647 : Int32)) % (5 : Int32))), .val (.ref jb), .val (.int jw), .val (.int jn), .val (.ref b92), .unset] [(.ref a94), (.ref b92)])) rfl (by rw [hml]; rfl) (Steps.refl _) (argsL := [(.ref a94)]) (rest := []) (lenOf Ib rfl) rfl (by show 2 * 0 + _ ≤ _; exact Nat.le_of_eq rfl) (hb hby at_245) (fun _ _ => ⟨rfl, e94, (by decide : 27 + 0 ≤ _), (by decide : 387 + 0 ≤ _)⟩)
          dsimp only [Pt.U, Pt.locs, Pt.cells, Pt.slots] at X111 l111 y111 z111 st111 hQ111
          subst l111 y111 z111
          obtain ⟨hcase111, rfl, hp111⟩ := hQ111
          have N111q : Fr n0 ([] : List Loc) := Fr.nil n0
          have hv111 : _ = some (Value.int 0) := hcase111.elim (fun q => absurd q.2 hc97) (fun q => q.1)
          subst hv111
          have N111 := Fr.app N92 N111q
          obtain ⟨a112, T112, h112, q112, t112, kb112, X112, e112, E112, hS, hk112, hZ, hown, Ex112, Fc112, Fv112, Av112, la112, lb112, hC112, -, hSf112, st112⟩ := ldcCH X111 hx hZ hown (Da hw 109 rfl) (Im hw) hp111 hS hk94 (Vd hw) (EL := Ub) (List.mem_of_getElem? (i := 1) rfl) CR95.1 (vs := [(.int 97), (.int 112), (.int 112), (.int 114), (.int 111), (.int 118), (.int 101), (.int 100)]) (z := (8 : Int32)) ⟨by decide, by decide⟩ (by decide) (by decide) (g := (mkF m 259 #[.val (.int p0), .val (.int p1), .val (.int p2), .val (.int p3), .val (.long p4), .second, .val (.int ((p0 &&& (2147483647 : Int32)) % (5 : Int32))), .val (.ref jb), .val (.int jw), .val (.int jn), .val (.ref b92), .unset] [(.ref b92)])) rfl (hb hby at_259) (n := 32) (by decide) (by decide) (by decide) (by decide)
          have CR113 := CR95.trans hC112
          have O112 := O94.ext E112
          have K112 := K94.ext E112
          have k114 : ∀ t, Va p e below m T112 261 #[.val (.int p0), .val (.int p1), .val (.int p2), .val (.int p3), .val (.long p4), .second, .val (.int ((p0 &&& (2147483647 : Int32)) % (5 : Int32))), .val (.ref jb), .val (.int jw), .val (.int jn), .val (.ref b92), .unset] [(.ref a112), (.ref b92)] t → Ab p e below m s₁ #[(.int p0), (.int p1), (.int p2), (.int p3), (.long p4)] maxLocals t := by
            intro t k
            refine k96 t ?_
            refine st111.trans ?_
            refine XS.ifYes X111.here hx rfl (pc0 := 248) (pc' := 257) rfl (hb hby at_248) rfl ((if0 _ _).trans (teq (by decide : (0 : Int32) = (0 : Int32))).1) (by decide) (by decide) ?_
            refine XS.aload X111.here hx rfl (hb hby at_257) rfl rfl ?_
            refine st112 _ ?_
            exact k
          by_cases hc115 : cs92 = ([(97 : Int32), (112 : Int32), (112 : Int32), (114 : Int32), (111 : Int32), (118 : Int32), (101 : Int32), (100 : Int32)] : List Int32)
          · have f116 := (f107.ext E112)
            have f117 := (f108.ext E112)
            have f118 := (f109.ext E112)
            have f119 := (f110.ext E112)
            obtain ⟨cq120, kq120, q120a, q120b, q120c⟩ := isOf hZ e112 f116
            obtain ⟨_, _, ⟨T120, L120, k120, n120⟩, -, X120, ⟨Lc120, hQ120, l120, y120, z120⟩, st120⟩ := X112.virtualBack hx (y := Kd) (z := Kd) hown (mvT hZ (Da hw 74 rfl)) (mvT hZ (Da hw 75 rfl)) (notFace_of_selects (args := #[]) (mvT hZ (Da hw 77 rfl))) (mvT hZ (Da hw 77 rfl)) (mvT hZ (Da hw 76 rfl)) (by decide) (StrChars.Road.eqW (W := 0) hZ (Gj hw) (kI := 4) (Da hw 8 rfl) f116 f117 f118 f119 D92_0 (Ie _ D92_1) D92_2 Ex112 Fv112 Fc112 Av112 Uj (Ie _ Aj) (Nat.le_of_ble_eq_true rfl) (Bb.ext O112.2) Za (by decide) (by decide)) q120a q120c (g := (mkF m 261 #[.val (.int p0), .val (.int p1), .val (.int p2), .val (.int p3), .val (.long p4), .second, .val (.int ((p0 &&& (2147483647 : Int32)) % (5 : Int32))), .val (.ref jb), .val (.int jw), .val (.int jn), .val (.ref b92), .unset] [(.ref a112), (.ref b92)])) rfl (by rw [hml]; rfl) (Steps.refl _) (argsL := [(.ref a112)]) (rest := []) (lenOf Ib rfl) rfl (by show 2 * 0 + _ ≤ _; exact Nat.le_of_eq rfl) (hb hby at_261) (fun _ _ => ⟨rfl, e112, (by decide : 29 + 0 ≤ _), (by decide : 423 + 0 ≤ _)⟩)
            dsimp only [Pt.U, Pt.locs, Pt.cells, Pt.slots] at X120 l120 y120 z120 st120 hQ120
            subst l120 y120 z120
            obtain ⟨hcase120, rfl, hp120⟩ := hQ120
            have N120q : Fr n0 ([] : List Loc) := Fr.nil n0
            have hv120 : _ = some (Value.int 1) := hcase120.elim (fun q => q.1) (fun q => absurd hc115 q.2)
            subst hv120
            have N120 := Fr.app N111 N120q
            obtain ⟨T121, X121, e121, st121⟩ := getS2 X120 hx hZ hown (host := "") (Or.inl (Da hw 110 rfl)) Via.refl hp120 (Rg.ext O112.2) (g := (mkF m 267 #[.val (.int p0), .val (.int p1), .val (.int p2), .val (.int p3), .val (.long p4), .second, .val (.int ((p0 &&& (2147483647 : Int32)) % (5 : Int32))), .val (.ref jb), .val (.int jw), .val (.int jn), .val (.ref b92), .unset] [])) rfl (hb hby at_267)
            obtain ⟨_, _, ⟨T122, L122, k122, n122⟩, -, X122, ⟨Lc122, hQ122, l122, y122, z122⟩, st122⟩ := Jvm.LawKit.callS X121 hx (y := Mk) hown (mvT hZ (Da hw 86 rfl)) (mvT hZ (Da hw 87 rfl)) (mvT hZ (Da hw 84 rfl)) (mvT hZ (Da hw 88 rfl)) (by decide) (backOf (W := 0) (Uu l Z a0 hw [] b92 t92 k92 z92 vs92 cs92 _ _ _ _ _ _ _ _ _ _ _ _ h112 n0 O112 hE f116 f118 f117 f119 D92_0 D92_1 D92_2 hc97 hc115) hZ (Da hw 88 rfl) (Da hw 84 rfl) (by decide) (by decide)) (g := (mkF m 294 #[.val (.int p0), .val (.int p1), .val (.int p2), .val (.int p3), .val (.long p4), .second, .val (.int ((p0 &&& (2147483647 : Int32)) % (5 : Int32))), .val (.ref jb), .val (.int jw), .val (.int jn), .val (.ref b92), .val (.ref Pa)] [(.ref b92)])) rfl (by rw [hml]; rfl) (argsL := [(.ref b92)]) (rest := []) (lenOf Kb rfl) rfl (by show 2 * 0 + _ ≤ _; exact Nat.le_of_eq rfl) (hb hby at_294) (fun _ _ => ⟨rfl, e121, (by decide : 29 + 1 ≤ _), (by decide : 423 + 3 ≤ _)⟩)
            dsimp only [Pt.U, Pt.locs, Pt.cells, Pt.slots] at X122 l122 y122 z122 st122 hQ122
            subst l122 y122 z122
            obtain ⟨rfl, N122q, O122, Kc122⟩ := hQ122
            have N122 := Fr.app N120 N122q
            have CR123 := CR113.trans (CHr.keep Kc122 all0 CR113.1)
            have K122 := K112.trans Kc122 (fun x hx => nomatch hx)
            have k124 : ∀ t, Va p e below m T122 307 #[.val (.int p0), .val (.int p1), .val (.int p2), .val (.int p3), .val (.long p4), .second, .val (.int ((p0 &&& (2147483647 : Int32)) % (5 : Int32))), .val (.ref jb), .val (.int jw), .val (.int jn), .val (.ref b92), .val (.ref Pa)] [(.int 1)] t → Ab p e below m s₁ #[(.int p0), (.int p1), (.int p2), (.int p3), (.long p4)] maxLocals t := by
              intro t k
              refine k114 t ?_
              refine st120.trans ?_
              refine XS.ifNo X120.here hx rfl (hb hby at_264) rfl ((if0 _ _).trans (feq (by decide : ¬ ((1 : Int32) = (0 : Int32)))).1) ?_
              refine st121 _ ?_
              refine XS.goto X121.here hx rfl (pc0 := 270) (pc' := 290) rfl (hb hby at_270) (by decide) (by decide) ?_
              refine XS.astore X121.here hx rfl (hb hby at_290) rfl rfl (l' := #[.val (.int p0), .val (.int p1), .val (.int p2), .val (.int p3), .val (.long p4), .second, .val (.int ((p0 &&& (2147483647 : Int32)) % (5 : Int32))), .val (.ref jb), .val (.int jw), .val (.int jn), .val (.ref b92), .val (.ref Pa)]) rfl ?_
              refine XS.aload X121.here hx rfl (hb hby at_292) rfl rfl ?_
              refine st122 _ ?_
              refine XS.aload X122.here hx rfl (hb hby at_297) rfl rfl ?_
              show Va p e below m T122 299 #[.val (.int p0), .val (.int p1), .val (.int p2), .val (.int p3), .val (.long p4), .second, .val (.int ((p0 &&& (2147483647 : Int32)) % (5 : Int32))), .val (.ref jb), .val (.int jw), .val (.int jn), .val (.ref b92), .val (.ref Pa)] [(.ref Pa), (.ref Pa)] t
              refine Jvm.RoadKit.acmp (g := (mkF m 299 #[.val (.int p0), .val (.int p1), .val (.int p2), .val (.int p3), .val (.long p4), .second, .val (.int ((p0 &&& (2147483647 : Int32)) % (5 : Int32))), .val (.ref jb), .val (.int jw), .val (.int jn), .val (.ref b92), .val (.ref Pa)] [(.ref Pa), (.ref Pa)])) X122 hx rfl rfl rfl (pc0 := 299) (pc' := 302) (same := true) rfl (hb hby at_299) rfl (decide_eq_true rfl) (by decide) (by decide) ?_
              refine XS.iconst X122.here hx rfl (hb hby at_302) ?_
              refine XS.goto X122.here hx rfl (pc0 := 303) (pc' := 307) rfl (hb hby at_303) (by decide) (by decide) ?_
              exact k
            obtain ⟨fs, hr, hrun, hended, hRW⟩ := X122.leaveW hS (by exact (Nat.le_trans hk112 Kc122.1)) (v := some (.int 1)) (fun h => by rw [Bd.returns] at h; cases h)
            refine hNG ⟨_, _, k124 _ ?_, hrun, hended, _, _, rfl, ?_, hRW.1, hRW.2.1, hRW.2.2.1, hRW.2.2.2.mono (by decide) (by decide)⟩
            · exact retN X122 hx (t := .boolean) Bd.returns (by simp) (hb hby at_307) hr
            · show Ks Z p0 p1 p2 p3 p4 Ra Ya Pa Wa Ma Ga Ka Ba Ua Ha La Ia h0 n0 _ T122.heap _
              exact ⟨rfl, N122⟩
          · have f125 := (f107.ext E112)
            have f126 := (f108.ext E112)
            have f127 := (f109.ext E112)
            have f128 := (f110.ext E112)
            obtain ⟨cq129, kq129, q129a, q129b, q129c⟩ := isOf hZ e112 f125
            obtain ⟨_, _, ⟨T129, L129, k129, n129⟩, -, X129, ⟨Lc129, hQ129, l129, y129, z129⟩, st129⟩ := X112.virtualBack hx (y := Kd) (z := Kd) hown (mvT hZ (Da hw 74 rfl)) (mvT hZ (Da hw 75 rfl)) (notFace_of_selects (args := #[]) (mvT hZ (Da hw 77 rfl))) (mvT hZ (Da hw 77 rfl)) (mvT hZ (Da hw 76 rfl)) (by decide) (StrChars.Road.eqW (W := 0) hZ (Gj hw) (kI := 4) (Da hw 8 rfl) f125 f126 f127 f128 D92_0 (Ie _ D92_1) D92_2 Ex112 Fv112 Fc112 Av112 Uj (Ie _ Aj) (Nat.le_of_ble_eq_true rfl) (Bb.ext O112.2) Za (by decide) (by decide)) q129a q129c (g := (mkF m 261 #[.val (.int p0), .val (.int p1), .val (.int p2), .val (.int p3), .val (.long p4), .second, .val (.int ((p0 &&& (2147483647 : Int32)) % (5 : Int32))), .val (.ref jb), .val (.int jw), .val (.int jn), .val (.ref b92), .unset] [(.ref a112), (.ref b92)])) rfl (by rw [hml]; rfl) (Steps.refl _) (argsL := [(.ref a112)]) (rest := []) (lenOf Ib rfl) rfl (by show 2 * 0 + _ ≤ _; exact Nat.le_of_eq rfl) (hb hby at_261) (fun _ _ => ⟨rfl, e112, (by decide : 29 + 0 ≤ _), (by decide : 423 + 0 ≤ _)⟩)
            dsimp only [Pt.U, Pt.locs, Pt.cells, Pt.slots] at X129 l129 y129 z129 st129 hQ129
            subst l129 y129 z129
            obtain ⟨hcase129, rfl, hp129⟩ := hQ129
            have N129q : Fr n0 ([] : List Loc) := Fr.nil n0
            have hv129 : _ = some (Value.int 0) := hcase129.elim (fun q => absurd q.2 hc115) (fun q => q.1)
            subst hv129
            have N129 := Fr.app N111 N129q
            obtain ⟨a130, T130, h130, q130, t130, kb130, X130, e130, E130, hS, hk130, hZ, hown, Ex130, Fc130, Fv130, Av130, la130, lb130, hC130, -, hSf130, st130⟩ := ldcCH X129 hx hZ hown (Da hw 111 rfl) (Im hw) hp129 hS hk112 (Vd hw) (EL := Ub) (List.mem_of_getElem? (i := 2) rfl) CR113.1 (vs := [(.int 100), (.int 101), (.int 110), (.int 105), (.int 101), (.int 100)]) (z := (6 : Int32)) ⟨by decide, by decide⟩ (by decide) (by decide) (g := (mkF m 275 #[.val (.int p0), .val (.int p1), .val (.int p2), .val (.int p3), .val (.long p4), .second, .val (.int ((p0 &&& (2147483647 : Int32)) % (5 : Int32))), .val (.ref jb), .val (.int jw), .val (.int jn), .val (.ref b92), .unset] [(.ref b92)])) rfl (hb hby at_275) (n := 24) (by decide) (by decide) (by decide) (by decide)
            have CR131 := CR113.trans hC130
            have O130 := O112.ext E130
            have K130 := K112.ext E130
            have k132 : ∀ t, Va p e below m T130 277 #[.val (.int p0), .val (.int p1), .val (.int p2), .val (.int p3), .val (.long p4), .second, .val (.int ((p0 &&& (2147483647 : Int32)) % (5 : Int32))), .val (.ref jb), .val (.int jw), .val (.int jn), .val (.ref b92), .unset] [(.ref a130), (.ref b92)] t → Ab p e below m s₁ #[(.int p0), (.int p1), (.int p2), (.int p3), (.long p4)] maxLocals t := by
              intro t k
              refine k114 t ?_
              refine st129.trans ?_
              refine XS.ifYes X129.here hx rfl (pc0 := 264) (pc' := 273) rfl (hb hby at_264) rfl ((if0 _ _).trans (teq (by decide : (0 : Int32) = (0 : Int32))).1) (by decide) (by decide) ?_
              refine XS.aload X129.here hx rfl (hb hby at_273) rfl rfl ?_
              refine st130 _ ?_
              exact k
            by_cases hc133 : cs92 = ([(100 : Int32), (101 : Int32), (110 : Int32), (105 : Int32), (101 : Int32), (100 : Int32)] : List Int32)
            · have f134 := (f125.ext E130)
              have f135 := (f126.ext E130)
              have f136 := (f127.ext E130)
              have f137 := (f128.ext E130)
              obtain ⟨cq138, kq138, q138a, q138b, q138c⟩ := isOf hZ e130 f134
              obtain ⟨_, _, ⟨T138, L138, k138, n138⟩, -, X138, ⟨Lc138, hQ138, l138, y138, z138⟩, st138⟩ := X130.virtualBack hx (y := Kd) (z := Kd) hown (mvT hZ (Da hw 74 rfl)) (mvT hZ (Da hw 75 rfl)) (notFace_of_selects (args := #[]) (mvT hZ (Da hw 77 rfl))) (mvT hZ (Da hw 77 rfl)) (mvT hZ (Da hw 76 rfl)) (by decide) (StrChars.Road.eqW (W := 0) hZ (Gj hw) (kI := 4) (Da hw 8 rfl) f134 f135 f136 f137 D92_0 (Ie _ D92_1) D92_2 Ex130 Fv130 Fc130 Av130 Ll (Ie _ Pk) (Nat.le_of_ble_eq_true rfl) (Bb.ext O130.2) Za (by decide) (by decide)) q138a q138c (g := (mkF m 277 #[.val (.int p0), .val (.int p1), .val (.int p2), .val (.int p3), .val (.long p4), .second, .val (.int ((p0 &&& (2147483647 : Int32)) % (5 : Int32))), .val (.ref jb), .val (.int jw), .val (.int jn), .val (.ref b92), .unset] [(.ref a130), (.ref b92)])) rfl (by rw [hml]; rfl) (Steps.refl _) (argsL := [(.ref a130)]) (rest := []) (lenOf Ib rfl) rfl (by show 2 * 0 + _ ≤ _; exact Nat.le_of_eq rfl) (hb hby at_277) (fun _ _ => ⟨rfl, e130, (by decide : 31 + 0 ≤ _), (by decide : 451 + 0 ≤ _)⟩)
              dsimp only [Pt.U, Pt.locs, Pt.cells, Pt.slots] at X138 l138 y138 z138 st138 hQ138
              subst l138 y138 z138
              obtain ⟨hcase138, rfl, hp138⟩ := hQ138
              have N138q : Fr n0 ([] : List Loc) := Fr.nil n0
              have hv138 : _ = some (Value.int 1) := hcase138.elim (fun q => q.1) (fun q => absurd hc133 q.2)
              subst hv138
              have N138 := Fr.app N129 N138q
              obtain ⟨T139, X139, e139, st139⟩ := getS2 X138 hx hZ hown (host := "") (Or.inl (Da hw 113 rfl)) Via.refl hp138 (Ki.ext O130.2) (g := (mkF m 283 #[.val (.int p0), .val (.int p1), .val (.int p2), .val (.int p3), .val (.long p4), .second, .val (.int ((p0 &&& (2147483647 : Int32)) % (5 : Int32))), .val (.ref jb), .val (.int jw), .val (.int jn), .val (.ref b92), .unset] [])) rfl (hb hby at_283)
              obtain ⟨_, _, ⟨T140, L140, k140, n140⟩, -, X140, ⟨Lc140, hQ140, l140, y140, z140⟩, st140⟩ := Jvm.LawKit.callS X139 hx (y := Mk) hown (mvT hZ (Da hw 86 rfl)) (mvT hZ (Da hw 87 rfl)) (mvT hZ (Da hw 84 rfl)) (mvT hZ (Da hw 88 rfl)) (by decide) (backOf (W := 0) (Wu l Z a0 hw [] b92 t92 k92 z92 vs92 cs92 _ _ _ _ _ _ _ _ _ _ _ _ h130 n0 O130 hE f134 f136 f135 f137 D92_0 D92_1 D92_2 hc97 hc115 hc133) hZ (Da hw 88 rfl) (Da hw 84 rfl) (by decide) (by decide)) (g := (mkF m 294 #[.val (.int p0), .val (.int p1), .val (.int p2), .val (.int p3), .val (.long p4), .second, .val (.int ((p0 &&& (2147483647 : Int32)) % (5 : Int32))), .val (.ref jb), .val (.int jw), .val (.int jn), .val (.ref b92), .val (.ref Wa)] [(.ref b92)])) rfl (by rw [hml]; rfl) (argsL := [(.ref b92)]) (rest := []) (lenOf Kb rfl) rfl (by show 2 * 0 + _ ≤ _; exact Nat.le_of_eq rfl) (hb hby at_294) (fun _ _ => ⟨rfl, e139, (by decide : 31 + 1 ≤ _), (by decide : 451 + 3 ≤ _)⟩)
              dsimp only [Pt.U, Pt.locs, Pt.cells, Pt.slots] at X140 l140 y140 z140 st140 hQ140
              subst l140 y140 z140
              obtain ⟨rfl, N140q, O140, Kc140⟩ := hQ140
              have N140 := Fr.app N138 N140q
              have CR141 := CR131.trans (CHr.keep Kc140 all0 CR131.1)
              have K140 := K130.trans Kc140 (fun x hx => nomatch hx)
              have k142 : ∀ t, Va p e below m T140 307 #[.val (.int p0), .val (.int p1), .val (.int p2), .val (.int p3), .val (.long p4), .second, .val (.int ((p0 &&& (2147483647 : Int32)) % (5 : Int32))), .val (.ref jb), .val (.int jw), .val (.int jn), .val (.ref b92), .val (.ref Wa)] [(.int 1)] t → Ab p e below m s₁ #[(.int p0), (.int p1), (.int p2), (.int p3), (.long p4)] maxLocals t := by
                intro t k
                refine k132 t ?_
                refine st138.trans ?_
                refine XS.ifNo X138.here hx rfl (hb hby at_280) rfl ((if0 _ _).trans (feq (by decide : ¬ ((1 : Int32) = (0 : Int32)))).1) ?_
                refine st139 _ ?_
                refine XS.goto X139.here hx rfl (pc0 := 286) (pc' := 290) rfl (hb hby at_286) (by decide) (by decide) ?_
                refine XS.astore X139.here hx rfl (hb hby at_290) rfl rfl (l' := #[.val (.int p0), .val (.int p1), .val (.int p2), .val (.int p3), .val (.long p4), .second, .val (.int ((p0 &&& (2147483647 : Int32)) % (5 : Int32))), .val (.ref jb), .val (.int jw), .val (.int jn), .val (.ref b92), .val (.ref Wa)]) rfl ?_
                refine XS.aload X139.here hx rfl (hb hby at_292) rfl rfl ?_
                refine st140 _ ?_
                refine XS.aload X140.here hx rfl (hb hby at_297) rfl rfl ?_
                show Va p e below m T140 299 #[.val (.int p0), .val (.int p1), .val (.int p2), .val (.int p3), .val (.long p4), .second, .val (.int ((p0 &&& (2147483647 : Int32)) % (5 : Int32))), .val (.ref jb), .val (.int jw), .val (.int jn), .val (.ref b92), .val (.ref Wa)] [(.ref Wa), (.ref Wa)] t
                refine Jvm.RoadKit.acmp (g := (mkF m 299 #[.val (.int p0), .val (.int p1), .val (.int p2), .val (.int p3), .val (.long p4), .second, .val (.int ((p0 &&& (2147483647 : Int32)) % (5 : Int32))), .val (.ref jb), .val (.int jw), .val (.int jn), .val (.ref b92), .val (.ref Wa)] [(.ref Wa), (.ref Wa)])) X140 hx rfl rfl rfl (pc0 := 299) (pc' := 302) (same := true) rfl (hb hby at_299) rfl (decide_eq_true rfl) (by decide) (by decide) ?_
                refine XS.iconst X140.here hx rfl (hb hby at_302) ?_
                refine XS.goto X140.here hx rfl (pc0 := 303) (pc' := 307) rfl (hb hby at_303) (by decide) (by decide) ?_
                exact k
              obtain ⟨fs, hr, hrun, hended, hRW⟩ := X140.leaveW hS (by exact (Nat.le_trans hk130 Kc140.1)) (v := some (.int 1)) (fun h => by rw [Bd.returns] at h; cases h)
              refine hNG ⟨_, _, k142 _ ?_, hrun, hended, _, _, rfl, ?_, hRW.1, hRW.2.1, hRW.2.2.1, hRW.2.2.2.mono (by decide) (by decide)⟩
              · exact retN X140 hx (t := .boolean) Bd.returns (by simp) (hb hby at_307) hr
              · show Ks Z p0 p1 p2 p3 p4 Ra Ya Pa Wa Ma Ga Ka Ba Ua Ha La Ia h0 n0 _ T140.heap _
                exact ⟨rfl, N140⟩
            · have f143 := (f125.ext E130)
              have f144 := (f126.ext E130)
              have f145 := (f127.ext E130)
              have f146 := (f128.ext E130)
              obtain ⟨cq147, kq147, q147a, q147b, q147c⟩ := isOf hZ e130 f143
              obtain ⟨_, _, ⟨T147, L147, k147, n147⟩, -, X147, ⟨Lc147, hQ147, l147, y147, z147⟩, st147⟩ := X130.virtualBack hx (y := Kd) (z := Kd) hown (mvT hZ (Da hw 74 rfl)) (mvT hZ (Da hw 75 rfl)) (notFace_of_selects (args := #[]) (mvT hZ (Da hw 77 rfl))) (mvT hZ (Da hw 77 rfl)) (mvT hZ (Da hw 76 rfl)) (by decide) (StrChars.Road.eqW (W := 0) hZ (Gj hw) (kI := 4) (Da hw 8 rfl) f143 f144 f145 f146 D92_0 (Ie _ D92_1) D92_2 Ex130 Fv130 Fc130 Av130 Ll (Ie _ Pk) (Nat.le_of_ble_eq_true rfl) (Bb.ext O130.2) Za (by decide) (by decide)) q147a q147c (g := (mkF m 277 #[.val (.int p0), .val (.int p1), .val (.int p2), .val (.int p3), .val (.long p4), .second, .val (.int ((p0 &&& (2147483647 : Int32)) % (5 : Int32))), .val (.ref jb), .val (.int jw), .val (.int jn), .val (.ref b92), .unset] [(.ref a130), (.ref b92)])) rfl (by rw [hml]; rfl) (Steps.refl _) (argsL := [(.ref a130)]) (rest := []) (lenOf Ib rfl) rfl (by show 2 * 0 + _ ≤ _; exact Nat.le_of_eq rfl) (hb hby at_277) (fun _ _ => ⟨rfl, e130, (by decide : 31 + 0 ≤ _), (by decide : 451 + 0 ≤ _)⟩)
              dsimp only [Pt.U, Pt.locs, Pt.cells, Pt.slots] at X147 l147 y147 z147 st147 hQ147
              subst l147 y147 z147
              obtain ⟨hcase147, rfl, hp147⟩ := hQ147
              have N147q : Fr n0 ([] : List Loc) := Fr.nil n0
              have hv147 : _ = some (Value.int 0) := hcase147.elim (fun q => absurd q.2 hc133) (fun q => q.1)
              subst hv147
              have N147 := Fr.app N129 N147q
              obtain ⟨_, _, ⟨T148, L148, k148, n148⟩, -, X148, ⟨Lc148, hQ148, l148, y148, z148⟩, st148⟩ := Jvm.LawKit.callS X147 hx (y := Mk) hown (mvT hZ (Da hw 86 rfl)) (mvT hZ (Da hw 87 rfl)) (mvT hZ (Da hw 84 rfl)) (mvT hZ (Da hw 88 rfl)) (by decide) (backOf (W := 0) (Zu l Z a0 hw [] b92 t92 k92 z92 vs92 cs92 _ _ _ _ _ _ _ _ _ _ _ _ h130 n0 O130 hE f143 f145 f144 f146 D92_0 D92_1 D92_2 hc97 hc115 hc133) hZ (Da hw 88 rfl) (Da hw 84 rfl) (by decide) (by decide)) (g := (mkF m 294 #[.val (.int p0), .val (.int p1), .val (.int p2), .val (.int p3), .val (.long p4), .second, .val (.int ((p0 &&& (2147483647 : Int32)) % (5 : Int32))), .val (.ref jb), .val (.int jw), .val (.int jn), .val (.ref b92), .val .null] [(.ref b92)])) rfl (by rw [hml]; rfl) (argsL := [(.ref b92)]) (rest := []) (lenOf Kb rfl) rfl (by show 2 * 0 + _ ≤ _; exact Nat.le_of_eq rfl) (hb hby at_294) (fun _ _ => ⟨rfl, hp147, (by decide : 31 + 1 ≤ _), (by decide : 451 + 3 ≤ _)⟩)
              dsimp only [Pt.U, Pt.locs, Pt.cells, Pt.slots] at X148 l148 y148 z148 st148 hQ148
              subst l148 y148 z148
              obtain ⟨rfl, N148q, O148, Kc148⟩ := hQ148
              have N148 := Fr.app N147 N148q
              have CR149 := CR131.trans (CHr.keep Kc148 all0 CR131.1)
              have K148 := K130.trans Kc148 (fun x hx => nomatch hx)
              have k150 : ∀ t, Va p e below m T148 307 #[.val (.int p0), .val (.int p1), .val (.int p2), .val (.int p3), .val (.long p4), .second, .val (.int ((p0 &&& (2147483647 : Int32)) % (5 : Int32))), .val (.ref jb), .val (.int jw), .val (.int jn), .val (.ref b92), .val .null] [(.int 1)] t → Ab p e below m s₁ #[(.int p0), (.int p1), (.int p2), (.int p3), (.long p4)] maxLocals t := by
                intro t k
                refine k132 t ?_
                refine st147.trans ?_
                refine XS.ifYes X147.here hx rfl (pc0 := 280) (pc' := 289) rfl (hb hby at_280) rfl ((if0 _ _).trans (teq (by decide : (0 : Int32) = (0 : Int32))).1) (by decide) (by decide) ?_
                refine XS.aconstNull X147.here hx rfl (hb hby at_289) ?_
                refine XS.astore X147.here hx rfl (hb hby at_290) rfl rfl (l' := #[.val (.int p0), .val (.int p1), .val (.int p2), .val (.int p3), .val (.long p4), .second, .val (.int ((p0 &&& (2147483647 : Int32)) % (5 : Int32))), .val (.ref jb), .val (.int jw), .val (.int jn), .val (.ref b92), .val .null]) rfl ?_
                refine XS.aload X147.here hx rfl (hb hby at_292) rfl rfl ?_
                refine st148 _ ?_
                refine XS.aload X148.here hx rfl (hb hby at_297) rfl rfl ?_
                refine Jvm.RoadKit.acmp (g := (mkF m 299 #[.val (.int p0), .val (.int p1), .val (.int p2), .val (.int p3), .val (.long p4), .second, .val (.int ((p0 &&& (2147483647 : Int32)) % (5 : Int32))), .val (.ref jb), .val (.int jw), .val (.int jn), .val (.ref b92), .val .null] [.null, .null])) X148 hx rfl rfl rfl (pc0 := 299) (pc' := 302) (same := true) rfl (hb hby at_299) rfl (decide_eq_true rfl) (by decide) (by decide) ?_
                show Va p e below m T148 302 #[.val (.int p0), .val (.int p1), .val (.int p2), .val (.int p3), .val (.long p4), .second, .val (.int ((p0 &&& (2147483647 : Int32)) % (5 : Int32))), .val (.ref jb), .val (.int jw), .val (.int jn), .val (.ref b92), .val .null] [] t
                refine XS.iconst X148.here hx rfl (hb hby at_302) ?_
                refine XS.goto X148.here hx rfl (pc0 := 303) (pc' := 307) rfl (hb hby at_303) (by decide) (by decide) ?_
                exact k
              obtain ⟨fs, hr, hrun, hended, hRW⟩ := X148.leaveW hS (by exact (Nat.le_trans hk130 Kc148.1)) (v := some (.int 1)) (fun h => by rw [Bd.returns] at h; cases h)
              refine hNG ⟨_, _, k150 _ ?_, hrun, hended, _, _, rfl, ?_, hRW.1, hRW.2.1, hRW.2.2.1, hRW.2.2.2.mono (by decide) (by decide)⟩
              · exact retN X148 hx (t := .boolean) Bd.returns (by simp) (hb hby at_307) hr
              · show Ks Z p0 p1 p2 p3 p4 Ra Ya Pa Wa Ma Ga Ka Ba Ua Ha La Ia h0 n0 _ T148.heap _
                exact ⟨rfl, N148⟩
      have k151 : ∀ t, Va p e below m T90 172 #[.val (.int p0), .val (.int p1), .val (.int p2), .val (.int p3), .val (.long p4), .second, .val (.int ((p0 &&& (2147483647 : Int32)) % (5 : Int32))), .val (.ref jb), .unset, .unset, .unset, .unset] [(.int ((p0 &&& (2147483647 : Int32)) % (5 : Int32)))] t → Ab p e below m s₁ #[(.int p0), (.int p1), (.int p2), (.int p3), (.long p4)] maxLocals t := by
        intro t k
        refine k90 t ?_
        refine XS.iload X90.here hx rfl (hb hby at_170) rfl ?_
        exact k
      by_cases hc152 : ((p0 &&& (2147483647 : Int32)) % (5 : Int32)) = (0 : Int32)
      · have k153 : ∀ t, Va p e below m T90 209 #[.val (.int p0), .val (.int p1), .val (.int p2), .val (.int p3), .val (.long p4), .second, .val (.int ((p0 &&& (2147483647 : Int32)) % (5 : Int32))), .val (.ref jb), .val (.int 7), .unset, .unset, .unset] [(.int (p1 &&& (16 : Int32)))] t → Ab p e below m s₁ #[(.int p0), (.int p1), (.int p2), (.int p3), (.long p4)] maxLocals t := by
          intro t k
          refine k151 t ?_
          refine XS.ifNo X90.here hx rfl (hb hby at_172) rfl ((if0 _ _).trans (teq hc152).2) ?_
          refine XS.bipush X90.here hx rfl (hb hby at_175) ?_
          refine XS.goto X90.here hx rfl (pc0 := 177) (pc' := 203) rfl (hb hby at_177) (by decide) (by decide) ?_
          refine XS.istore X90.here hx rfl (hb hby at_203) rfl (l' := #[.val (.int p0), .val (.int p1), .val (.int p2), .val (.int p3), .val (.long p4), .second, .val (.int ((p0 &&& (2147483647 : Int32)) % (5 : Int32))), .val (.ref jb), .val (.int 7), .unset, .unset, .unset]) rfl ?_
          refine XS.iloadN X90.here hx rfl (hb hby at_205) rfl ?_
          refine XS.bipush X90.here hx rfl (hb hby at_206) ?_
          refine XS.iand X90.here hx rfl (hb hby at_208) rfl ?_
          exact k
        by_cases hc154 : (p1 &&& (16 : Int32)) = (0 : Int32)
        · have k155 : ∀ t, Va p e below m T90 215 #[.val (.int p0), .val (.int p1), .val (.int p2), .val (.int p3), .val (.long p4), .second, .val (.int ((p0 &&& (2147483647 : Int32)) % (5 : Int32))), .val (.ref jb), .val (.int 7), .unset, .unset, .unset] [(.int 3), (.int ((p0 &&& (2147483647 : Int32)) % (5 : Int32)))] t → Ab p e below m s₁ #[(.int p0), (.int p1), (.int p2), (.int p3), (.long p4)] maxLocals t := by
            intro t k
            refine k153 t ?_
            refine XS.ifNo X90.here hx rfl (hb hby at_209) rfl ((if0 _ _).trans (teq hc154).2) ?_
            refine XS.iload X90.here hx rfl (hb hby at_212) rfl ?_
            refine XS.iconst X90.here hx rfl (hb hby at_214) ?_
            exact k
          by_cases hc156 : ((p0 &&& (2147483647 : Int32)) % (5 : Int32)) < (3 : Int32)
          · have k157 : ∀ t, Va p e below m T90 232 #[.val (.int p0), .val (.int p1), .val (.int p2), .val (.int p3), .val (.long p4), .second, .val (.int ((p0 &&& (2147483647 : Int32)) % (5 : Int32))), .val (.ref jb), .val (.int 7), .val (.int 7), .unset, .unset] [] t → Ab p e below m s₁ #[(.int p0), (.int p1), (.int p2), (.int p3), (.long p4)] maxLocals t := by
              intro t k
              refine k155 t ?_
              refine XS.icmpNo X90.here hx rfl (hb hby at_215) rfl (tlt hc156).2.1 ?_
              refine XS.iload X90.here hx rfl (hb hby at_218) rfl ?_
              refine XS.goto X90.here hx rfl (pc0 := 220) (pc' := 230) rfl (hb hby at_220) (by decide) (by decide) ?_
              refine XS.istore X90.here hx rfl (hb hby at_230) rfl (l' := #[.val (.int p0), .val (.int p1), .val (.int p2), .val (.int p3), .val (.long p4), .second, .val (.int ((p0 &&& (2147483647 : Int32)) % (5 : Int32))), .val (.ref jb), .val (.int 7), .val (.int 7), .unset, .unset]) rfl ?_
              exact k
            exact J91 vm90 _ _ _ h90 (7 : Int32) (7 : Int32) hS hk90 hZ hown CR90 (X90.more (by decide) (by decide)) e90 N90 O90 K90 G90_0 (by decide) k157
          · have k158 : ∀ t, Va p e below m T90 232 #[.val (.int p0), .val (.int p1), .val (.int p2), .val (.int p3), .val (.long p4), .second, .val (.int ((p0 &&& (2147483647 : Int32)) % (5 : Int32))), .val (.ref jb), .val (.int 7), .val (.int ((p1 &&& (15 : Int32)) % (10 : Int32))), .unset, .unset] [] t → Ab p e below m s₁ #[(.int p0), (.int p1), (.int p2), (.int p3), (.long p4)] maxLocals t := by
              intro t k
              refine k155 t ?_
              refine XS.icmpYes X90.here hx rfl (pc0 := 215) (pc' := 223) rfl (hb hby at_215) rfl (flt hc156).2.1 (by decide) (by decide) ?_
              refine XS.iloadN X90.here hx rfl (hb hby at_223) rfl ?_
              refine XS.bipush X90.here hx rfl (hb hby at_224) ?_
              refine XS.iand X90.here hx rfl (hb hby at_226) rfl ?_
              refine XS.bipush X90.here hx rfl (hb hby at_227) ?_
              refine iremM X90 hx rfl (hb hby at_229) rfl (by decide) ?_
              refine XS.istore X90.here hx rfl (hb hby at_230) rfl (l' := #[.val (.int p0), .val (.int p1), .val (.int p2), .val (.int p3), .val (.long p4), .second, .val (.int ((p0 &&& (2147483647 : Int32)) % (5 : Int32))), .val (.ref jb), .val (.int 7), .val (.int ((p1 &&& (15 : Int32)) % (10 : Int32))), .unset, .unset]) rfl ?_
              exact k
            exact J91 vm90 _ _ _ h90 ((p1 &&& (15 : Int32)) % (10 : Int32)) (7 : Int32) hS hk90 hZ hown CR90 (X90.more (by decide) (by decide)) e90 N90 O90 K90 G90_0 (Il p1) k158
        · have k159 : ∀ t, Va p e below m T90 232 #[.val (.int p0), .val (.int p1), .val (.int p2), .val (.int p3), .val (.long p4), .second, .val (.int ((p0 &&& (2147483647 : Int32)) % (5 : Int32))), .val (.ref jb), .val (.int 7), .val (.int ((p1 &&& (15 : Int32)) % (10 : Int32))), .unset, .unset] [] t → Ab p e below m s₁ #[(.int p0), (.int p1), (.int p2), (.int p3), (.long p4)] maxLocals t := by
            intro t k
            refine k153 t ?_
            refine XS.ifYes X90.here hx rfl (pc0 := 209) (pc' := 223) rfl (hb hby at_209) rfl ((if0 _ _).trans (feq hc154).2) (by decide) (by decide) ?_
            refine XS.iloadN X90.here hx rfl (hb hby at_223) rfl ?_
            refine XS.bipush X90.here hx rfl (hb hby at_224) ?_
            refine XS.iand X90.here hx rfl (hb hby at_226) rfl ?_
            refine XS.bipush X90.here hx rfl (hb hby at_227) ?_
            refine iremM X90 hx rfl (hb hby at_229) rfl (by decide) ?_
            refine XS.istore X90.here hx rfl (hb hby at_230) rfl (l' := #[.val (.int p0), .val (.int p1), .val (.int p2), .val (.int p3), .val (.long p4), .second, .val (.int ((p0 &&& (2147483647 : Int32)) % (5 : Int32))), .val (.ref jb), .val (.int 7), .val (.int ((p1 &&& (15 : Int32)) % (10 : Int32))), .unset, .unset]) rfl ?_
            exact k
          exact J91 vm90 _ _ _ h90 ((p1 &&& (15 : Int32)) % (10 : Int32)) (7 : Int32) hS hk90 hZ hown CR90 (X90.more (by decide) (by decide)) e90 N90 O90 K90 G90_0 (Il p1) k159
      · have k160 : ∀ t, Va p e below m T90 183 #[.val (.int p0), .val (.int p1), .val (.int p2), .val (.int p3), .val (.long p4), .second, .val (.int ((p0 &&& (2147483647 : Int32)) % (5 : Int32))), .val (.ref jb), .unset, .unset, .unset, .unset] [(.int 1), (.int ((p0 &&& (2147483647 : Int32)) % (5 : Int32)))] t → Ab p e below m s₁ #[(.int p0), (.int p1), (.int p2), (.int p3), (.long p4)] maxLocals t := by
          intro t k
          refine k151 t ?_
          refine XS.ifYes X90.here hx rfl (pc0 := 172) (pc' := 180) rfl (hb hby at_172) rfl ((if0 _ _).trans (feq hc152).2) (by decide) (by decide) ?_
          refine XS.iload X90.here hx rfl (hb hby at_180) rfl ?_
          refine XS.iconst X90.here hx rfl (hb hby at_182) ?_
          exact k
        by_cases hc161 : ((p0 &&& (2147483647 : Int32)) % (5 : Int32)) = (1 : Int32)
        · have k162 : ∀ t, Va p e below m T90 209 #[.val (.int p0), .val (.int p1), .val (.int p2), .val (.int p3), .val (.long p4), .second, .val (.int ((p0 &&& (2147483647 : Int32)) % (5 : Int32))), .val (.ref jb), .val (.int 8), .unset, .unset, .unset] [(.int (p1 &&& (16 : Int32)))] t → Ab p e below m s₁ #[(.int p0), (.int p1), (.int p2), (.int p3), (.long p4)] maxLocals t := by
            intro t k
            refine k160 t ?_
            refine XS.icmpNo X90.here hx rfl (hb hby at_183) rfl (teq hc161).2 ?_
            refine XS.bipush X90.here hx rfl (hb hby at_186) ?_
            refine XS.goto X90.here hx rfl (pc0 := 188) (pc' := 203) rfl (hb hby at_188) (by decide) (by decide) ?_
            refine XS.istore X90.here hx rfl (hb hby at_203) rfl (l' := #[.val (.int p0), .val (.int p1), .val (.int p2), .val (.int p3), .val (.long p4), .second, .val (.int ((p0 &&& (2147483647 : Int32)) % (5 : Int32))), .val (.ref jb), .val (.int 8), .unset, .unset, .unset]) rfl ?_
            refine XS.iloadN X90.here hx rfl (hb hby at_205) rfl ?_
            refine XS.bipush X90.here hx rfl (hb hby at_206) ?_
            refine XS.iand X90.here hx rfl (hb hby at_208) rfl ?_
            exact k
          by_cases hc163 : (p1 &&& (16 : Int32)) = (0 : Int32)
          · have k164 : ∀ t, Va p e below m T90 215 #[.val (.int p0), .val (.int p1), .val (.int p2), .val (.int p3), .val (.long p4), .second, .val (.int ((p0 &&& (2147483647 : Int32)) % (5 : Int32))), .val (.ref jb), .val (.int 8), .unset, .unset, .unset] [(.int 3), (.int ((p0 &&& (2147483647 : Int32)) % (5 : Int32)))] t → Ab p e below m s₁ #[(.int p0), (.int p1), (.int p2), (.int p3), (.long p4)] maxLocals t := by
              intro t k
              refine k162 t ?_
              refine XS.ifNo X90.here hx rfl (hb hby at_209) rfl ((if0 _ _).trans (teq hc163).2) ?_
              refine XS.iload X90.here hx rfl (hb hby at_212) rfl ?_
              refine XS.iconst X90.here hx rfl (hb hby at_214) ?_
              exact k
            by_cases hc165 : ((p0 &&& (2147483647 : Int32)) % (5 : Int32)) < (3 : Int32)
            · have k166 : ∀ t, Va p e below m T90 232 #[.val (.int p0), .val (.int p1), .val (.int p2), .val (.int p3), .val (.long p4), .second, .val (.int ((p0 &&& (2147483647 : Int32)) % (5 : Int32))), .val (.ref jb), .val (.int 8), .val (.int 8), .unset, .unset] [] t → Ab p e below m s₁ #[(.int p0), (.int p1), (.int p2), (.int p3), (.long p4)] maxLocals t := by
                intro t k
                refine k164 t ?_
                refine XS.icmpNo X90.here hx rfl (hb hby at_215) rfl (tlt hc165).2.1 ?_
                refine XS.iload X90.here hx rfl (hb hby at_218) rfl ?_
                refine XS.goto X90.here hx rfl (pc0 := 220) (pc' := 230) rfl (hb hby at_220) (by decide) (by decide) ?_
                refine XS.istore X90.here hx rfl (hb hby at_230) rfl (l' := #[.val (.int p0), .val (.int p1), .val (.int p2), .val (.int p3), .val (.long p4), .second, .val (.int ((p0 &&& (2147483647 : Int32)) % (5 : Int32))), .val (.ref jb), .val (.int 8), .val (.int 8), .unset, .unset]) rfl ?_
                exact k
              exact J91 vm90 _ _ _ h90 (8 : Int32) (8 : Int32) hS hk90 hZ hown CR90 (X90.more (by decide) (by decide)) e90 N90 O90 K90 G90_0 (by decide) k166
            · have k167 : ∀ t, Va p e below m T90 232 #[.val (.int p0), .val (.int p1), .val (.int p2), .val (.int p3), .val (.long p4), .second, .val (.int ((p0 &&& (2147483647 : Int32)) % (5 : Int32))), .val (.ref jb), .val (.int 8), .val (.int ((p1 &&& (15 : Int32)) % (10 : Int32))), .unset, .unset] [] t → Ab p e below m s₁ #[(.int p0), (.int p1), (.int p2), (.int p3), (.long p4)] maxLocals t := by
                intro t k
                refine k164 t ?_
                refine XS.icmpYes X90.here hx rfl (pc0 := 215) (pc' := 223) rfl (hb hby at_215) rfl (flt hc165).2.1 (by decide) (by decide) ?_
                refine XS.iloadN X90.here hx rfl (hb hby at_223) rfl ?_
                refine XS.bipush X90.here hx rfl (hb hby at_224) ?_
                refine XS.iand X90.here hx rfl (hb hby at_226) rfl ?_
                refine XS.bipush X90.here hx rfl (hb hby at_227) ?_
                refine iremM X90 hx rfl (hb hby at_229) rfl (by decide) ?_
                refine XS.istore X90.here hx rfl (hb hby at_230) rfl (l' := #[.val (.int p0), .val (.int p1), .val (.int p2), .val (.int p3), .val (.long p4), .second, .val (.int ((p0 &&& (2147483647 : Int32)) % (5 : Int32))), .val (.ref jb), .val (.int 8), .val (.int ((p1 &&& (15 : Int32)) % (10 : Int32))), .unset, .unset]) rfl ?_
                exact k
              exact J91 vm90 _ _ _ h90 ((p1 &&& (15 : Int32)) % (10 : Int32)) (8 : Int32) hS hk90 hZ hown CR90 (X90.more (by decide) (by decide)) e90 N90 O90 K90 G90_0 (Il p1) k167
          · have k168 : ∀ t, Va p e below m T90 232 #[.val (.int p0), .val (.int p1), .val (.int p2), .val (.int p3), .val (.long p4), .second, .val (.int ((p0 &&& (2147483647 : Int32)) % (5 : Int32))), .val (.ref jb), .val (.int 8), .val (.int ((p1 &&& (15 : Int32)) % (10 : Int32))), .unset, .unset] [] t → Ab p e below m s₁ #[(.int p0), (.int p1), (.int p2), (.int p3), (.long p4)] maxLocals t := by
              intro t k
              refine k162 t ?_
              refine XS.ifYes X90.here hx rfl (pc0 := 209) (pc' := 223) rfl (hb hby at_209) rfl ((if0 _ _).trans (feq hc163).2) (by decide) (by decide) ?_
              refine XS.iloadN X90.here hx rfl (hb hby at_223) rfl ?_
              refine XS.bipush X90.here hx rfl (hb hby at_224) ?_
              refine XS.iand X90.here hx rfl (hb hby at_226) rfl ?_
              refine XS.bipush X90.here hx rfl (hb hby at_227) ?_
              refine iremM X90 hx rfl (hb hby at_229) rfl (by decide) ?_
              refine XS.istore X90.here hx rfl (hb hby at_230) rfl (l' := #[.val (.int p0), .val (.int p1), .val (.int p2), .val (.int p3), .val (.long p4), .second, .val (.int ((p0 &&& (2147483647 : Int32)) % (5 : Int32))), .val (.ref jb), .val (.int 8), .val (.int ((p1 &&& (15 : Int32)) % (10 : Int32))), .unset, .unset]) rfl ?_
              exact k
            exact J91 vm90 _ _ _ h90 ((p1 &&& (15 : Int32)) % (10 : Int32)) (8 : Int32) hS hk90 hZ hown CR90 (X90.more (by decide) (by decide)) e90 N90 O90 K90 G90_0 (Il p1) k168
        · have k169 : ∀ t, Va p e below m T90 194 #[.val (.int p0), .val (.int p1), .val (.int p2), .val (.int p3), .val (.long p4), .second, .val (.int ((p0 &&& (2147483647 : Int32)) % (5 : Int32))), .val (.ref jb), .unset, .unset, .unset, .unset] [(.int 2), (.int ((p0 &&& (2147483647 : Int32)) % (5 : Int32)))] t → Ab p e below m s₁ #[(.int p0), (.int p1), (.int p2), (.int p3), (.long p4)] maxLocals t := by
            intro t k
            refine k160 t ?_
            refine XS.icmpYes X90.here hx rfl (pc0 := 183) (pc' := 191) rfl (hb hby at_183) rfl (feq hc161).2 (by decide) (by decide) ?_
            refine XS.iload X90.here hx rfl (hb hby at_191) rfl ?_
            refine XS.iconst X90.here hx rfl (hb hby at_193) ?_
            exact k
          by_cases hc170 : ((p0 &&& (2147483647 : Int32)) % (5 : Int32)) = (2 : Int32)
          · have k171 : ∀ t, Va p e below m T90 209 #[.val (.int p0), .val (.int p1), .val (.int p2), .val (.int p3), .val (.long p4), .second, .val (.int ((p0 &&& (2147483647 : Int32)) % (5 : Int32))), .val (.ref jb), .val (.int 6), .unset, .unset, .unset] [(.int (p1 &&& (16 : Int32)))] t → Ab p e below m s₁ #[(.int p0), (.int p1), (.int p2), (.int p3), (.long p4)] maxLocals t := by
              intro t k
              refine k169 t ?_
              refine XS.icmpNo X90.here hx rfl (hb hby at_194) rfl (teq hc170).2 ?_
              refine XS.bipush X90.here hx rfl (hb hby at_197) ?_
              refine XS.goto X90.here hx rfl (pc0 := 199) (pc' := 203) rfl (hb hby at_199) (by decide) (by decide) ?_
              refine XS.istore X90.here hx rfl (hb hby at_203) rfl (l' := #[.val (.int p0), .val (.int p1), .val (.int p2), .val (.int p3), .val (.long p4), .second, .val (.int ((p0 &&& (2147483647 : Int32)) % (5 : Int32))), .val (.ref jb), .val (.int 6), .unset, .unset, .unset]) rfl ?_
              refine XS.iloadN X90.here hx rfl (hb hby at_205) rfl ?_
              refine XS.bipush X90.here hx rfl (hb hby at_206) ?_
              refine XS.iand X90.here hx rfl (hb hby at_208) rfl ?_
              exact k
            by_cases hc172 : (p1 &&& (16 : Int32)) = (0 : Int32)
            · have k173 : ∀ t, Va p e below m T90 215 #[.val (.int p0), .val (.int p1), .val (.int p2), .val (.int p3), .val (.long p4), .second, .val (.int ((p0 &&& (2147483647 : Int32)) % (5 : Int32))), .val (.ref jb), .val (.int 6), .unset, .unset, .unset] [(.int 3), (.int ((p0 &&& (2147483647 : Int32)) % (5 : Int32)))] t → Ab p e below m s₁ #[(.int p0), (.int p1), (.int p2), (.int p3), (.long p4)] maxLocals t := by
                intro t k
                refine k171 t ?_
                refine XS.ifNo X90.here hx rfl (hb hby at_209) rfl ((if0 _ _).trans (teq hc172).2) ?_
                refine XS.iload X90.here hx rfl (hb hby at_212) rfl ?_
                refine XS.iconst X90.here hx rfl (hb hby at_214) ?_
                exact k
              by_cases hc174 : ((p0 &&& (2147483647 : Int32)) % (5 : Int32)) < (3 : Int32)
              · have k175 : ∀ t, Va p e below m T90 232 #[.val (.int p0), .val (.int p1), .val (.int p2), .val (.int p3), .val (.long p4), .second, .val (.int ((p0 &&& (2147483647 : Int32)) % (5 : Int32))), .val (.ref jb), .val (.int 6), .val (.int 6), .unset, .unset] [] t → Ab p e below m s₁ #[(.int p0), (.int p1), (.int p2), (.int p3), (.long p4)] maxLocals t := by
                  intro t k
                  refine k173 t ?_
                  refine XS.icmpNo X90.here hx rfl (hb hby at_215) rfl (tlt hc174).2.1 ?_
                  refine XS.iload X90.here hx rfl (hb hby at_218) rfl ?_
                  refine XS.goto X90.here hx rfl (pc0 := 220) (pc' := 230) rfl (hb hby at_220) (by decide) (by decide) ?_
                  refine XS.istore X90.here hx rfl (hb hby at_230) rfl (l' := #[.val (.int p0), .val (.int p1), .val (.int p2), .val (.int p3), .val (.long p4), .second, .val (.int ((p0 &&& (2147483647 : Int32)) % (5 : Int32))), .val (.ref jb), .val (.int 6), .val (.int 6), .unset, .unset]) rfl ?_
                  exact k
                exact J91 vm90 _ _ _ h90 (6 : Int32) (6 : Int32) hS hk90 hZ hown CR90 (X90.more (by decide) (by decide)) e90 N90 O90 K90 G90_0 (by decide) k175
              · have k176 : ∀ t, Va p e below m T90 232 #[.val (.int p0), .val (.int p1), .val (.int p2), .val (.int p3), .val (.long p4), .second, .val (.int ((p0 &&& (2147483647 : Int32)) % (5 : Int32))), .val (.ref jb), .val (.int 6), .val (.int ((p1 &&& (15 : Int32)) % (10 : Int32))), .unset, .unset] [] t → Ab p e below m s₁ #[(.int p0), (.int p1), (.int p2), (.int p3), (.long p4)] maxLocals t := by
                  intro t k
                  refine k173 t ?_
                  refine XS.icmpYes X90.here hx rfl (pc0 := 215) (pc' := 223) rfl (hb hby at_215) rfl (flt hc174).2.1 (by decide) (by decide) ?_
                  refine XS.iloadN X90.here hx rfl (hb hby at_223) rfl ?_
                  refine XS.bipush X90.here hx rfl (hb hby at_224) ?_
                  refine XS.iand X90.here hx rfl (hb hby at_226) rfl ?_
                  refine XS.bipush X90.here hx rfl (hb hby at_227) ?_
                  refine iremM X90 hx rfl (hb hby at_229) rfl (by decide) ?_
                  refine XS.istore X90.here hx rfl (hb hby at_230) rfl (l' := #[.val (.int p0), .val (.int p1), .val (.int p2), .val (.int p3), .val (.long p4), .second, .val (.int ((p0 &&& (2147483647 : Int32)) % (5 : Int32))), .val (.ref jb), .val (.int 6), .val (.int ((p1 &&& (15 : Int32)) % (10 : Int32))), .unset, .unset]) rfl ?_
                  exact k
                exact J91 vm90 _ _ _ h90 ((p1 &&& (15 : Int32)) % (10 : Int32)) (6 : Int32) hS hk90 hZ hown CR90 (X90.more (by decide) (by decide)) e90 N90 O90 K90 G90_0 (Il p1) k176
            · have k177 : ∀ t, Va p e below m T90 232 #[.val (.int p0), .val (.int p1), .val (.int p2), .val (.int p3), .val (.long p4), .second, .val (.int ((p0 &&& (2147483647 : Int32)) % (5 : Int32))), .val (.ref jb), .val (.int 6), .val (.int ((p1 &&& (15 : Int32)) % (10 : Int32))), .unset, .unset] [] t → Ab p e below m s₁ #[(.int p0), (.int p1), (.int p2), (.int p3), (.long p4)] maxLocals t := by
                intro t k
                refine k171 t ?_
                refine XS.ifYes X90.here hx rfl (pc0 := 209) (pc' := 223) rfl (hb hby at_209) rfl ((if0 _ _).trans (feq hc172).2) (by decide) (by decide) ?_
                refine XS.iloadN X90.here hx rfl (hb hby at_223) rfl ?_
                refine XS.bipush X90.here hx rfl (hb hby at_224) ?_
                refine XS.iand X90.here hx rfl (hb hby at_226) rfl ?_
                refine XS.bipush X90.here hx rfl (hb hby at_227) ?_
                refine iremM X90 hx rfl (hb hby at_229) rfl (by decide) ?_
                refine XS.istore X90.here hx rfl (hb hby at_230) rfl (l' := #[.val (.int p0), .val (.int p1), .val (.int p2), .val (.int p3), .val (.long p4), .second, .val (.int ((p0 &&& (2147483647 : Int32)) % (5 : Int32))), .val (.ref jb), .val (.int 6), .val (.int ((p1 &&& (15 : Int32)) % (10 : Int32))), .unset, .unset]) rfl ?_
                exact k
              exact J91 vm90 _ _ _ h90 ((p1 &&& (15 : Int32)) % (10 : Int32)) (6 : Int32) hS hk90 hZ hown CR90 (X90.more (by decide) (by decide)) e90 N90 O90 K90 G90_0 (Il p1) k177
          · have k178 : ∀ t, Va p e below m T90 209 #[.val (.int p0), .val (.int p1), .val (.int p2), .val (.int p3), .val (.long p4), .second, .val (.int ((p0 &&& (2147483647 : Int32)) % (5 : Int32))), .val (.ref jb), .val (.int 0), .unset, .unset, .unset] [(.int (p1 &&& (16 : Int32)))] t → Ab p e below m s₁ #[(.int p0), (.int p1), (.int p2), (.int p3), (.long p4)] maxLocals t := by
              intro t k
              refine k169 t ?_
              refine XS.icmpYes X90.here hx rfl (pc0 := 194) (pc' := 202) rfl (hb hby at_194) rfl (feq hc170).2 (by decide) (by decide) ?_
              refine XS.iconst X90.here hx rfl (hb hby at_202) ?_
              refine XS.istore X90.here hx rfl (hb hby at_203) rfl (l' := #[.val (.int p0), .val (.int p1), .val (.int p2), .val (.int p3), .val (.long p4), .second, .val (.int ((p0 &&& (2147483647 : Int32)) % (5 : Int32))), .val (.ref jb), .val (.int 0), .unset, .unset, .unset]) rfl ?_
              refine XS.iloadN X90.here hx rfl (hb hby at_205) rfl ?_
              refine XS.bipush X90.here hx rfl (hb hby at_206) ?_
              refine XS.iand X90.here hx rfl (hb hby at_208) rfl ?_
              exact k
            by_cases hc179 : (p1 &&& (16 : Int32)) = (0 : Int32)
            · have k180 : ∀ t, Va p e below m T90 215 #[.val (.int p0), .val (.int p1), .val (.int p2), .val (.int p3), .val (.long p4), .second, .val (.int ((p0 &&& (2147483647 : Int32)) % (5 : Int32))), .val (.ref jb), .val (.int 0), .unset, .unset, .unset] [(.int 3), (.int ((p0 &&& (2147483647 : Int32)) % (5 : Int32)))] t → Ab p e below m s₁ #[(.int p0), (.int p1), (.int p2), (.int p3), (.long p4)] maxLocals t := by
                intro t k
                refine k178 t ?_
                refine XS.ifNo X90.here hx rfl (hb hby at_209) rfl ((if0 _ _).trans (teq hc179).2) ?_
                refine XS.iload X90.here hx rfl (hb hby at_212) rfl ?_
                refine XS.iconst X90.here hx rfl (hb hby at_214) ?_
                exact k
              by_cases hc181 : ((p0 &&& (2147483647 : Int32)) % (5 : Int32)) < (3 : Int32)
              · have k182 : ∀ t, Va p e below m T90 232 #[.val (.int p0), .val (.int p1), .val (.int p2), .val (.int p3), .val (.long p4), .second, .val (.int ((p0 &&& (2147483647 : Int32)) % (5 : Int32))), .val (.ref jb), .val (.int 0), .val (.int 0), .unset, .unset] [] t → Ab p e below m s₁ #[(.int p0), (.int p1), (.int p2), (.int p3), (.long p4)] maxLocals t := by
                  intro t k
                  refine k180 t ?_
                  refine XS.icmpNo X90.here hx rfl (hb hby at_215) rfl (tlt hc181).2.1 ?_
                  refine XS.iload X90.here hx rfl (hb hby at_218) rfl ?_
                  refine XS.goto X90.here hx rfl (pc0 := 220) (pc' := 230) rfl (hb hby at_220) (by decide) (by decide) ?_
                  refine XS.istore X90.here hx rfl (hb hby at_230) rfl (l' := #[.val (.int p0), .val (.int p1), .val (.int p2), .val (.int p3), .val (.long p4), .second, .val (.int ((p0 &&& (2147483647 : Int32)) % (5 : Int32))), .val (.ref jb), .val (.int 0), .val (.int 0), .unset, .unset]) rfl ?_
                  exact k
                exact J91 vm90 _ _ _ h90 (0 : Int32) (0 : Int32) hS hk90 hZ hown CR90 (X90.more (by decide) (by decide)) e90 N90 O90 K90 G90_0 (by decide) k182
              · have k183 : ∀ t, Va p e below m T90 232 #[.val (.int p0), .val (.int p1), .val (.int p2), .val (.int p3), .val (.long p4), .second, .val (.int ((p0 &&& (2147483647 : Int32)) % (5 : Int32))), .val (.ref jb), .val (.int 0), .val (.int ((p1 &&& (15 : Int32)) % (10 : Int32))), .unset, .unset] [] t → Ab p e below m s₁ #[(.int p0), (.int p1), (.int p2), (.int p3), (.long p4)] maxLocals t := by
                  intro t k
                  refine k180 t ?_
                  refine XS.icmpYes X90.here hx rfl (pc0 := 215) (pc' := 223) rfl (hb hby at_215) rfl (flt hc181).2.1 (by decide) (by decide) ?_
                  refine XS.iloadN X90.here hx rfl (hb hby at_223) rfl ?_
                  refine XS.bipush X90.here hx rfl (hb hby at_224) ?_
                  refine XS.iand X90.here hx rfl (hb hby at_226) rfl ?_
                  refine XS.bipush X90.here hx rfl (hb hby at_227) ?_
                  refine iremM X90 hx rfl (hb hby at_229) rfl (by decide) ?_
                  refine XS.istore X90.here hx rfl (hb hby at_230) rfl (l' := #[.val (.int p0), .val (.int p1), .val (.int p2), .val (.int p3), .val (.long p4), .second, .val (.int ((p0 &&& (2147483647 : Int32)) % (5 : Int32))), .val (.ref jb), .val (.int 0), .val (.int ((p1 &&& (15 : Int32)) % (10 : Int32))), .unset, .unset]) rfl ?_
                  exact k
                exact J91 vm90 _ _ _ h90 ((p1 &&& (15 : Int32)) % (10 : Int32)) (0 : Int32) hS hk90 hZ hown CR90 (X90.more (by decide) (by decide)) e90 N90 O90 K90 G90_0 (Il p1) k183
            · have k184 : ∀ t, Va p e below m T90 232 #[.val (.int p0), .val (.int p1), .val (.int p2), .val (.int p3), .val (.long p4), .second, .val (.int ((p0 &&& (2147483647 : Int32)) % (5 : Int32))), .val (.ref jb), .val (.int 0), .val (.int ((p1 &&& (15 : Int32)) % (10 : Int32))), .unset, .unset] [] t → Ab p e below m s₁ #[(.int p0), (.int p1), (.int p2), (.int p3), (.long p4)] maxLocals t := by
                intro t k
                refine k178 t ?_
                refine XS.ifYes X90.here hx rfl (pc0 := 209) (pc' := 223) rfl (hb hby at_209) rfl ((if0 _ _).trans (feq hc179).2) (by decide) (by decide) ?_
                refine XS.iloadN X90.here hx rfl (hb hby at_223) rfl ?_
                refine XS.bipush X90.here hx rfl (hb hby at_224) ?_
                refine XS.iand X90.here hx rfl (hb hby at_226) rfl ?_
                refine XS.bipush X90.here hx rfl (hb hby at_227) ?_
                refine iremM X90 hx rfl (hb hby at_229) rfl (by decide) ?_
                refine XS.istore X90.here hx rfl (hb hby at_230) rfl (l' := #[.val (.int p0), .val (.int p1), .val (.int p2), .val (.int p3), .val (.long p4), .second, .val (.int ((p0 &&& (2147483647 : Int32)) % (5 : Int32))), .val (.ref jb), .val (.int 0), .val (.int ((p1 &&& (15 : Int32)) % (10 : Int32))), .unset, .unset]) rfl ?_
                exact k
              exact J91 vm90 _ _ _ h90 ((p1 &&& (15 : Int32)) % (10 : Int32)) (0 : Int32) hS hk90 hZ hown CR90 (X90.more (by decide) (by decide)) e90 N90 O90 K90 G90_0 (Il p1) k184
    have k185 : ∀ t, Va p e below m T86 151 #[.val (.int p0), .val (.int p1), .val (.int p2), .val (.int p3), .val (.long p4), .second, .val (.int ((p0 &&& (2147483647 : Int32)) % (5 : Int32))), .val (.ref b15), .unset, .unset, .unset, .unset] [(.int (p2 &&& (16 : Int32)))] t → Ab p e below m s₁ #[(.int p0), (.int p1), (.int p2), (.int p3), (.long p4)] maxLocals t := by
      intro t k
      refine k89 t ?_
      refine XS.iloadN X86.here hx rfl (hb hby at_147) rfl ?_
      refine XS.bipush X86.here hx rfl (hb hby at_148) ?_
      refine XS.iand X86.here hx rfl (hb hby at_150) rfl ?_
      exact k
    by_cases hc186 : (p2 &&& (16 : Int32)) = (0 : Int32)
    · have k187 : ∀ t, Va p e below m T86 170 #[.val (.int p0), .val (.int p1), .val (.int p2), .val (.int p3), .val (.long p4), .second, .val (.int ((p0 &&& (2147483647 : Int32)) % (5 : Int32))), .val (.ref b15), .unset, .unset, .unset, .unset] [] t → Ab p e below m s₁ #[(.int p0), (.int p1), (.int p2), (.int p3), (.long p4)] maxLocals t := by
        intro t k
        refine k185 t ?_
        refine XS.ifYes X86.here hx rfl (pc0 := 151) (pc' := 170) rfl (hb hby at_151) rfl ((if0 _ _).trans (teq hc186).1) (by decide) (by decide) ?_
        exact k
      have sf188 := (Safe.wr W86 sf88 CR82.1 sf88)
      exact J90 T81.vm _ _ _ h86 b15 c15 r17 r25 r33 r41 r49 r57 r65 r73 r81 hS (Nat.le_trans (Nat.le_refl _) (Keep.of_wr W86).1) hZ hown CR87 (X86.more (by decide) (by decide)) e86 N86 O86 K86 V86 g_b15 s_b15 sf188 D17_0 D25_0 D33_0 D41_0 D49_0 D57_0 D65_0 D73_0 D81_0 k187
    · have k189 : ∀ t, Va p e below m T86 163 #[.val (.int p0), .val (.int p1), .val (.int p2), .val (.int p3), .val (.long p4), .second, .val (.int ((p0 &&& (2147483647 : Int32)) % (5 : Int32))), .val (.ref b15), .unset, .unset, .unset, .unset] [(.int ((p2 &&& (15 : Int32)) % (9 : Int32))), (.ref b15)] t → Ab p e below m s₁ #[(.int p0), (.int p1), (.int p2), (.int p3), (.long p4)] maxLocals t := by
        intro t k
        refine k185 t ?_
        refine XS.ifNo X86.here hx rfl (hb hby at_151) rfl ((if0 _ _).trans (feq hc186).1) ?_
        refine XS.aload X86.here hx rfl (hb hby at_154) rfl rfl ?_
        refine XS.iloadN X86.here hx rfl (hb hby at_156) rfl ?_
        refine XS.bipush X86.here hx rfl (hb hby at_157) ?_
        refine XS.iand X86.here hx rfl (hb hby at_159) rfl ?_
        refine XS.bipush X86.here hx rfl (hb hby at_160) ?_
        refine iremM X86 hx rfl (hb hby at_162) rfl (by decide) ?_
        exact k
      rcases Gv p2 with hs190 | hs190 | hs190 | hs190 | hs190 | hs190 | hs190 | hs190 | hs190
      · have k191 : ∀ t, Va p e below m T86 163 #[.val (.int p0), .val (.int p1), .val (.int p2), .val (.int p3), .val (.long p4), .second, .val (.int ((p0 &&& (2147483647 : Int32)) % (5 : Int32))), .val (.ref b15), .unset, .unset, .unset, .unset] [(.int 0), (.ref b15)] t → Ab p e below m s₁ #[(.int p0), (.int p1), (.int p2), (.int p3), (.long p4)] maxLocals t := by
          intro t k
          refine k189 t ?_
          rw [hs190]
          exact k
        obtain ⟨cl192, Ar192, q192, Sz192, Nn192, Hs192, Gf192⟩ := id V86
        have hin193 : ¬ ((0 : Int32) < 0 ∨ cl192.slots.size ≤ ((0 : Int32)).toNatClampNeg) := inb_of Sz192 ⟨by decide, by decide⟩
        obtain ⟨T194, h194, X194, e194, W194, st194⟩ := stC X86 hx hZ e86 Ar192 (j := (0 : Int32)) hin193 (g := (mkF m 169 #[.val (.int p0), .val (.int p1), .val (.int p2), .val (.int p3), .val (.long p4), .second, .val (.int ((p0 &&& (2147483647 : Int32)) % (5 : Int32))), .val (.ref b15), .unset, .unset, .unset, .unset] [(.int ((p3 &&& (255 : Int32)).toUInt32.toUInt16.toUInt32.toInt32)), (.int 0), (.ref b15)])) rfl rfl (hb hby at_169)
        have V194 : Arv Z h194 b15 c15 .char (9 : Int32) [(.int ((p3 &&& (255 : Int32)).toUInt32.toUInt16.toUInt32.toInt32)), (.int r25), (.int r33), (.int r41), (.int r49), (.int r57), (.int r65), (.int r73), (.int r81)] (.int 0) := by
          have q := Arv.set Ar192 q192 Sz192 Nn192 Hs192 Gf192 (fits_nar_char _) W194 0 rfl (Nat.le_of_ble_eq_true rfl)
          first | exact q | (simp only [Bl] at q; exact q)
        have sf196 := (Safe.wr W86 sf88 CR82.1 sf88)
        have CR195 := CR87.trans (CHr.wr W194 sf196 CR87.1)
        have N194 := Fr.snoc X194 N86 g_b15
        have O194 := O86.wr W194 g_b15
        have K194 := K86.wr W194 (Or.inr s_b15)
        have k197 : ∀ t, Va p e below m T194 170 #[.val (.int p0), .val (.int p1), .val (.int p2), .val (.int p3), .val (.long p4), .second, .val (.int ((p0 &&& (2147483647 : Int32)) % (5 : Int32))), .val (.ref b15), .unset, .unset, .unset, .unset] [] t → Ab p e below m s₁ #[(.int p0), (.int p1), (.int p2), (.int p3), (.long p4)] maxLocals t := by
          intro t k
          refine k191 t ?_
          refine XS.iloadN X86.here hx rfl (hb hby at_163) rfl ?_
          refine XS.sipush X86.here hx rfl (hb hby at_164) ?_
          refine XS.iand X86.here hx rfl (hb hby at_167) rfl ?_
          refine XS.i2c X86.here hx rfl (hb hby at_168) rfl ?_
          refine st194 _ ?_
          exact k
        have sf198 := (Safe.wr W194 sf196 CR87.1 sf196)
        exact J90 T81.vm _ _ _ h194 b15 c15 ((p3 &&& (255 : Int32)).toUInt32.toUInt16.toUInt32.toInt32) r25 r33 r41 r49 r57 r65 r73 r81 hS (Nat.le_trans (Nat.le_trans (Nat.le_refl _) (Keep.of_wr W86).1) (Keep.of_wr W194).1) hZ hown CR195 (X194.more (by decide) (by decide)) e194 N194 O194 K194 V194 g_b15 s_b15 sf198 (Zi p3) D25_0 D33_0 D41_0 D49_0 D57_0 D65_0 D73_0 D81_0 k197
      · have k199 : ∀ t, Va p e below m T86 163 #[.val (.int p0), .val (.int p1), .val (.int p2), .val (.int p3), .val (.long p4), .second, .val (.int ((p0 &&& (2147483647 : Int32)) % (5 : Int32))), .val (.ref b15), .unset, .unset, .unset, .unset] [(.int 1), (.ref b15)] t → Ab p e below m s₁ #[(.int p0), (.int p1), (.int p2), (.int p3), (.long p4)] maxLocals t := by
          intro t k
          refine k189 t ?_
          rw [hs190]
          exact k
        obtain ⟨cl200, Ar200, q200, Sz200, Nn200, Hs200, Gf200⟩ := id V86
        have hin201 : ¬ ((1 : Int32) < 0 ∨ cl200.slots.size ≤ ((1 : Int32)).toNatClampNeg) := inb_of Sz200 ⟨by decide, by decide⟩
        obtain ⟨T202, h202, X202, e202, W202, st202⟩ := stC X86 hx hZ e86 Ar200 (j := (1 : Int32)) hin201 (g := (mkF m 169 #[.val (.int p0), .val (.int p1), .val (.int p2), .val (.int p3), .val (.long p4), .second, .val (.int ((p0 &&& (2147483647 : Int32)) % (5 : Int32))), .val (.ref b15), .unset, .unset, .unset, .unset] [(.int ((p3 &&& (255 : Int32)).toUInt32.toUInt16.toUInt32.toInt32)), (.int 1), (.ref b15)])) rfl rfl (hb hby at_169)
        have V202 : Arv Z h202 b15 c15 .char (9 : Int32) [(.int r17), (.int ((p3 &&& (255 : Int32)).toUInt32.toUInt16.toUInt32.toInt32)), (.int r33), (.int r41), (.int r49), (.int r57), (.int r65), (.int r73), (.int r81)] (.int 0) := by
          have q := Arv.set Ar200 q200 Sz200 Nn200 Hs200 Gf200 (fits_nar_char _) W202 1 rfl (Nat.le_of_ble_eq_true rfl)
          first | exact q | (simp only [Bl] at q; exact q)
        have sf204 := (Safe.wr W86 sf88 CR82.1 sf88)
        have CR203 := CR87.trans (CHr.wr W202 sf204 CR87.1)
        have N202 := Fr.snoc X202 N86 g_b15
        have O202 := O86.wr W202 g_b15
        have K202 := K86.wr W202 (Or.inr s_b15)
        have k205 : ∀ t, Va p e below m T202 170 #[.val (.int p0), .val (.int p1), .val (.int p2), .val (.int p3), .val (.long p4), .second, .val (.int ((p0 &&& (2147483647 : Int32)) % (5 : Int32))), .val (.ref b15), .unset, .unset, .unset, .unset] [] t → Ab p e below m s₁ #[(.int p0), (.int p1), (.int p2), (.int p3), (.long p4)] maxLocals t := by
          intro t k
          refine k199 t ?_
          refine XS.iloadN X86.here hx rfl (hb hby at_163) rfl ?_
          refine XS.sipush X86.here hx rfl (hb hby at_164) ?_
          refine XS.iand X86.here hx rfl (hb hby at_167) rfl ?_
          refine XS.i2c X86.here hx rfl (hb hby at_168) rfl ?_
          refine st202 _ ?_
          exact k
        have sf206 := (Safe.wr W202 sf204 CR87.1 sf204)
        exact J90 T81.vm _ _ _ h202 b15 c15 r17 ((p3 &&& (255 : Int32)).toUInt32.toUInt16.toUInt32.toInt32) r33 r41 r49 r57 r65 r73 r81 hS (Nat.le_trans (Nat.le_trans (Nat.le_refl _) (Keep.of_wr W86).1) (Keep.of_wr W202).1) hZ hown CR203 (X202.more (by decide) (by decide)) e202 N202 O202 K202 V202 g_b15 s_b15 sf206 D17_0 (Zi p3) D33_0 D41_0 D49_0 D57_0 D65_0 D73_0 D81_0 k205
      · have k207 : ∀ t, Va p e below m T86 163 #[.val (.int p0), .val (.int p1), .val (.int p2), .val (.int p3), .val (.long p4), .second, .val (.int ((p0 &&& (2147483647 : Int32)) % (5 : Int32))), .val (.ref b15), .unset, .unset, .unset, .unset] [(.int 2), (.ref b15)] t → Ab p e below m s₁ #[(.int p0), (.int p1), (.int p2), (.int p3), (.long p4)] maxLocals t := by
          intro t k
          refine k189 t ?_
          rw [hs190]
          exact k
        obtain ⟨cl208, Ar208, q208, Sz208, Nn208, Hs208, Gf208⟩ := id V86
        have hin209 : ¬ ((2 : Int32) < 0 ∨ cl208.slots.size ≤ ((2 : Int32)).toNatClampNeg) := inb_of Sz208 ⟨by decide, by decide⟩
        obtain ⟨T210, h210, X210, e210, W210, st210⟩ := stC X86 hx hZ e86 Ar208 (j := (2 : Int32)) hin209 (g := (mkF m 169 #[.val (.int p0), .val (.int p1), .val (.int p2), .val (.int p3), .val (.long p4), .second, .val (.int ((p0 &&& (2147483647 : Int32)) % (5 : Int32))), .val (.ref b15), .unset, .unset, .unset, .unset] [(.int ((p3 &&& (255 : Int32)).toUInt32.toUInt16.toUInt32.toInt32)), (.int 2), (.ref b15)])) rfl rfl (hb hby at_169)
        have V210 : Arv Z h210 b15 c15 .char (9 : Int32) [(.int r17), (.int r25), (.int ((p3 &&& (255 : Int32)).toUInt32.toUInt16.toUInt32.toInt32)), (.int r41), (.int r49), (.int r57), (.int r65), (.int r73), (.int r81)] (.int 0) := by
          have q := Arv.set Ar208 q208 Sz208 Nn208 Hs208 Gf208 (fits_nar_char _) W210 2 rfl (Nat.le_of_ble_eq_true rfl)
          first | exact q | (simp only [Bl] at q; exact q)
        have sf212 := (Safe.wr W86 sf88 CR82.1 sf88)
        have CR211 := CR87.trans (CHr.wr W210 sf212 CR87.1)
        have N210 := Fr.snoc X210 N86 g_b15
        have O210 := O86.wr W210 g_b15
        have K210 := K86.wr W210 (Or.inr s_b15)
        have k213 : ∀ t, Va p e below m T210 170 #[.val (.int p0), .val (.int p1), .val (.int p2), .val (.int p3), .val (.long p4), .second, .val (.int ((p0 &&& (2147483647 : Int32)) % (5 : Int32))), .val (.ref b15), .unset, .unset, .unset, .unset] [] t → Ab p e below m s₁ #[(.int p0), (.int p1), (.int p2), (.int p3), (.long p4)] maxLocals t := by
          intro t k
          refine k207 t ?_
          refine XS.iloadN X86.here hx rfl (hb hby at_163) rfl ?_
          refine XS.sipush X86.here hx rfl (hb hby at_164) ?_
          refine XS.iand X86.here hx rfl (hb hby at_167) rfl ?_
          refine XS.i2c X86.here hx rfl (hb hby at_168) rfl ?_
          refine st210 _ ?_
          exact k
        have sf214 := (Safe.wr W210 sf212 CR87.1 sf212)
        exact J90 T81.vm _ _ _ h210 b15 c15 r17 r25 ((p3 &&& (255 : Int32)).toUInt32.toUInt16.toUInt32.toInt32) r41 r49 r57 r65 r73 r81 hS (Nat.le_trans (Nat.le_trans (Nat.le_refl _) (Keep.of_wr W86).1) (Keep.of_wr W210).1) hZ hown CR211 (X210.more (by decide) (by decide)) e210 N210 O210 K210 V210 g_b15 s_b15 sf214 D17_0 D25_0 (Zi p3) D41_0 D49_0 D57_0 D65_0 D73_0 D81_0 k213
      · have k215 : ∀ t, Va p e below m T86 163 #[.val (.int p0), .val (.int p1), .val (.int p2), .val (.int p3), .val (.long p4), .second, .val (.int ((p0 &&& (2147483647 : Int32)) % (5 : Int32))), .val (.ref b15), .unset, .unset, .unset, .unset] [(.int 3), (.ref b15)] t → Ab p e below m s₁ #[(.int p0), (.int p1), (.int p2), (.int p3), (.long p4)] maxLocals t := by
          intro t k
          refine k189 t ?_
          rw [hs190]
          exact k
        obtain ⟨cl216, Ar216, q216, Sz216, Nn216, Hs216, Gf216⟩ := id V86
        have hin217 : ¬ ((3 : Int32) < 0 ∨ cl216.slots.size ≤ ((3 : Int32)).toNatClampNeg) := inb_of Sz216 ⟨by decide, by decide⟩
        obtain ⟨T218, h218, X218, e218, W218, st218⟩ := stC X86 hx hZ e86 Ar216 (j := (3 : Int32)) hin217 (g := (mkF m 169 #[.val (.int p0), .val (.int p1), .val (.int p2), .val (.int p3), .val (.long p4), .second, .val (.int ((p0 &&& (2147483647 : Int32)) % (5 : Int32))), .val (.ref b15), .unset, .unset, .unset, .unset] [(.int ((p3 &&& (255 : Int32)).toUInt32.toUInt16.toUInt32.toInt32)), (.int 3), (.ref b15)])) rfl rfl (hb hby at_169)
        have V218 : Arv Z h218 b15 c15 .char (9 : Int32) [(.int r17), (.int r25), (.int r33), (.int ((p3 &&& (255 : Int32)).toUInt32.toUInt16.toUInt32.toInt32)), (.int r49), (.int r57), (.int r65), (.int r73), (.int r81)] (.int 0) := by
          have q := Arv.set Ar216 q216 Sz216 Nn216 Hs216 Gf216 (fits_nar_char _) W218 3 rfl (Nat.le_of_ble_eq_true rfl)
          first | exact q | (simp only [Bl] at q; exact q)
        have sf220 := (Safe.wr W86 sf88 CR82.1 sf88)
        have CR219 := CR87.trans (CHr.wr W218 sf220 CR87.1)
        have N218 := Fr.snoc X218 N86 g_b15
        have O218 := O86.wr W218 g_b15
        have K218 := K86.wr W218 (Or.inr s_b15)
        have k221 : ∀ t, Va p e below m T218 170 #[.val (.int p0), .val (.int p1), .val (.int p2), .val (.int p3), .val (.long p4), .second, .val (.int ((p0 &&& (2147483647 : Int32)) % (5 : Int32))), .val (.ref b15), .unset, .unset, .unset, .unset] [] t → Ab p e below m s₁ #[(.int p0), (.int p1), (.int p2), (.int p3), (.long p4)] maxLocals t := by
          intro t k
          refine k215 t ?_
          refine XS.iloadN X86.here hx rfl (hb hby at_163) rfl ?_
          refine XS.sipush X86.here hx rfl (hb hby at_164) ?_
          refine XS.iand X86.here hx rfl (hb hby at_167) rfl ?_
          refine XS.i2c X86.here hx rfl (hb hby at_168) rfl ?_
          refine st218 _ ?_
          exact k
        have sf222 := (Safe.wr W218 sf220 CR87.1 sf220)
        exact J90 T81.vm _ _ _ h218 b15 c15 r17 r25 r33 ((p3 &&& (255 : Int32)).toUInt32.toUInt16.toUInt32.toInt32) r49 r57 r65 r73 r81 hS (Nat.le_trans (Nat.le_trans (Nat.le_refl _) (Keep.of_wr W86).1) (Keep.of_wr W218).1) hZ hown CR219 (X218.more (by decide) (by decide)) e218 N218 O218 K218 V218 g_b15 s_b15 sf222 D17_0 D25_0 D33_0 (Zi p3) D49_0 D57_0 D65_0 D73_0 D81_0 k221
      · have k223 : ∀ t, Va p e below m T86 163 #[.val (.int p0), .val (.int p1), .val (.int p2), .val (.int p3), .val (.long p4), .second, .val (.int ((p0 &&& (2147483647 : Int32)) % (5 : Int32))), .val (.ref b15), .unset, .unset, .unset, .unset] [(.int 4), (.ref b15)] t → Ab p e below m s₁ #[(.int p0), (.int p1), (.int p2), (.int p3), (.long p4)] maxLocals t := by
          intro t k
          refine k189 t ?_
          rw [hs190]
          exact k
        obtain ⟨cl224, Ar224, q224, Sz224, Nn224, Hs224, Gf224⟩ := id V86
        have hin225 : ¬ ((4 : Int32) < 0 ∨ cl224.slots.size ≤ ((4 : Int32)).toNatClampNeg) := inb_of Sz224 ⟨by decide, by decide⟩
        obtain ⟨T226, h226, X226, e226, W226, st226⟩ := stC X86 hx hZ e86 Ar224 (j := (4 : Int32)) hin225 (g := (mkF m 169 #[.val (.int p0), .val (.int p1), .val (.int p2), .val (.int p3), .val (.long p4), .second, .val (.int ((p0 &&& (2147483647 : Int32)) % (5 : Int32))), .val (.ref b15), .unset, .unset, .unset, .unset] [(.int ((p3 &&& (255 : Int32)).toUInt32.toUInt16.toUInt32.toInt32)), (.int 4), (.ref b15)])) rfl rfl (hb hby at_169)
        have V226 : Arv Z h226 b15 c15 .char (9 : Int32) [(.int r17), (.int r25), (.int r33), (.int r41), (.int ((p3 &&& (255 : Int32)).toUInt32.toUInt16.toUInt32.toInt32)), (.int r57), (.int r65), (.int r73), (.int r81)] (.int 0) := by
          have q := Arv.set Ar224 q224 Sz224 Nn224 Hs224 Gf224 (fits_nar_char _) W226 4 rfl (Nat.le_of_ble_eq_true rfl)
          first | exact q | (simp only [Bl] at q; exact q)
        have sf228 := (Safe.wr W86 sf88 CR82.1 sf88)
        have CR227 := CR87.trans (CHr.wr W226 sf228 CR87.1)
        have N226 := Fr.snoc X226 N86 g_b15
        have O226 := O86.wr W226 g_b15
        have K226 := K86.wr W226 (Or.inr s_b15)
        have k229 : ∀ t, Va p e below m T226 170 #[.val (.int p0), .val (.int p1), .val (.int p2), .val (.int p3), .val (.long p4), .second, .val (.int ((p0 &&& (2147483647 : Int32)) % (5 : Int32))), .val (.ref b15), .unset, .unset, .unset, .unset] [] t → Ab p e below m s₁ #[(.int p0), (.int p1), (.int p2), (.int p3), (.long p4)] maxLocals t := by
          intro t k
          refine k223 t ?_
          refine XS.iloadN X86.here hx rfl (hb hby at_163) rfl ?_
          refine XS.sipush X86.here hx rfl (hb hby at_164) ?_
          refine XS.iand X86.here hx rfl (hb hby at_167) rfl ?_
          refine XS.i2c X86.here hx rfl (hb hby at_168) rfl ?_
          refine st226 _ ?_
          exact k
        have sf230 := (Safe.wr W226 sf228 CR87.1 sf228)
        exact J90 T81.vm _ _ _ h226 b15 c15 r17 r25 r33 r41 ((p3 &&& (255 : Int32)).toUInt32.toUInt16.toUInt32.toInt32) r57 r65 r73 r81 hS (Nat.le_trans (Nat.le_trans (Nat.le_refl _) (Keep.of_wr W86).1) (Keep.of_wr W226).1) hZ hown CR227 (X226.more (by decide) (by decide)) e226 N226 O226 K226 V226 g_b15 s_b15 sf230 D17_0 D25_0 D33_0 D41_0 (Zi p3) D57_0 D65_0 D73_0 D81_0 k229
      · have k231 : ∀ t, Va p e below m T86 163 #[.val (.int p0), .val (.int p1), .val (.int p2), .val (.int p3), .val (.long p4), .second, .val (.int ((p0 &&& (2147483647 : Int32)) % (5 : Int32))), .val (.ref b15), .unset, .unset, .unset, .unset] [(.int 5), (.ref b15)] t → Ab p e below m s₁ #[(.int p0), (.int p1), (.int p2), (.int p3), (.long p4)] maxLocals t := by
          intro t k
          refine k189 t ?_
          rw [hs190]
          exact k
        obtain ⟨cl232, Ar232, q232, Sz232, Nn232, Hs232, Gf232⟩ := id V86
        have hin233 : ¬ ((5 : Int32) < 0 ∨ cl232.slots.size ≤ ((5 : Int32)).toNatClampNeg) := inb_of Sz232 ⟨by decide, by decide⟩
        obtain ⟨T234, h234, X234, e234, W234, st234⟩ := stC X86 hx hZ e86 Ar232 (j := (5 : Int32)) hin233 (g := (mkF m 169 #[.val (.int p0), .val (.int p1), .val (.int p2), .val (.int p3), .val (.long p4), .second, .val (.int ((p0 &&& (2147483647 : Int32)) % (5 : Int32))), .val (.ref b15), .unset, .unset, .unset, .unset] [(.int ((p3 &&& (255 : Int32)).toUInt32.toUInt16.toUInt32.toInt32)), (.int 5), (.ref b15)])) rfl rfl (hb hby at_169)
        have V234 : Arv Z h234 b15 c15 .char (9 : Int32) [(.int r17), (.int r25), (.int r33), (.int r41), (.int r49), (.int ((p3 &&& (255 : Int32)).toUInt32.toUInt16.toUInt32.toInt32)), (.int r65), (.int r73), (.int r81)] (.int 0) := by
          have q := Arv.set Ar232 q232 Sz232 Nn232 Hs232 Gf232 (fits_nar_char _) W234 5 rfl (Nat.le_of_ble_eq_true rfl)
          first | exact q | (simp only [Bl] at q; exact q)
        have sf236 := (Safe.wr W86 sf88 CR82.1 sf88)
        have CR235 := CR87.trans (CHr.wr W234 sf236 CR87.1)
        have N234 := Fr.snoc X234 N86 g_b15
        have O234 := O86.wr W234 g_b15
        have K234 := K86.wr W234 (Or.inr s_b15)
        have k237 : ∀ t, Va p e below m T234 170 #[.val (.int p0), .val (.int p1), .val (.int p2), .val (.int p3), .val (.long p4), .second, .val (.int ((p0 &&& (2147483647 : Int32)) % (5 : Int32))), .val (.ref b15), .unset, .unset, .unset, .unset] [] t → Ab p e below m s₁ #[(.int p0), (.int p1), (.int p2), (.int p3), (.long p4)] maxLocals t := by
          intro t k
          refine k231 t ?_
          refine XS.iloadN X86.here hx rfl (hb hby at_163) rfl ?_
          refine XS.sipush X86.here hx rfl (hb hby at_164) ?_
          refine XS.iand X86.here hx rfl (hb hby at_167) rfl ?_
          refine XS.i2c X86.here hx rfl (hb hby at_168) rfl ?_
          refine st234 _ ?_
          exact k
        have sf238 := (Safe.wr W234 sf236 CR87.1 sf236)
        exact J90 T81.vm _ _ _ h234 b15 c15 r17 r25 r33 r41 r49 ((p3 &&& (255 : Int32)).toUInt32.toUInt16.toUInt32.toInt32) r65 r73 r81 hS (Nat.le_trans (Nat.le_trans (Nat.le_refl _) (Keep.of_wr W86).1) (Keep.of_wr W234).1) hZ hown CR235 (X234.more (by decide) (by decide)) e234 N234 O234 K234 V234 g_b15 s_b15 sf238 D17_0 D25_0 D33_0 D41_0 D49_0 (Zi p3) D65_0 D73_0 D81_0 k237
      · have k239 : ∀ t, Va p e below m T86 163 #[.val (.int p0), .val (.int p1), .val (.int p2), .val (.int p3), .val (.long p4), .second, .val (.int ((p0 &&& (2147483647 : Int32)) % (5 : Int32))), .val (.ref b15), .unset, .unset, .unset, .unset] [(.int 6), (.ref b15)] t → Ab p e below m s₁ #[(.int p0), (.int p1), (.int p2), (.int p3), (.long p4)] maxLocals t := by
          intro t k
          refine k189 t ?_
          rw [hs190]
          exact k
        obtain ⟨cl240, Ar240, q240, Sz240, Nn240, Hs240, Gf240⟩ := id V86
        have hin241 : ¬ ((6 : Int32) < 0 ∨ cl240.slots.size ≤ ((6 : Int32)).toNatClampNeg) := inb_of Sz240 ⟨by decide, by decide⟩
        obtain ⟨T242, h242, X242, e242, W242, st242⟩ := stC X86 hx hZ e86 Ar240 (j := (6 : Int32)) hin241 (g := (mkF m 169 #[.val (.int p0), .val (.int p1), .val (.int p2), .val (.int p3), .val (.long p4), .second, .val (.int ((p0 &&& (2147483647 : Int32)) % (5 : Int32))), .val (.ref b15), .unset, .unset, .unset, .unset] [(.int ((p3 &&& (255 : Int32)).toUInt32.toUInt16.toUInt32.toInt32)), (.int 6), (.ref b15)])) rfl rfl (hb hby at_169)
        have V242 : Arv Z h242 b15 c15 .char (9 : Int32) [(.int r17), (.int r25), (.int r33), (.int r41), (.int r49), (.int r57), (.int ((p3 &&& (255 : Int32)).toUInt32.toUInt16.toUInt32.toInt32)), (.int r73), (.int r81)] (.int 0) := by
          have q := Arv.set Ar240 q240 Sz240 Nn240 Hs240 Gf240 (fits_nar_char _) W242 6 rfl (Nat.le_of_ble_eq_true rfl)
          first | exact q | (simp only [Bl] at q; exact q)
        have sf244 := (Safe.wr W86 sf88 CR82.1 sf88)
        have CR243 := CR87.trans (CHr.wr W242 sf244 CR87.1)
        have N242 := Fr.snoc X242 N86 g_b15
        have O242 := O86.wr W242 g_b15
        have K242 := K86.wr W242 (Or.inr s_b15)
        have k245 : ∀ t, Va p e below m T242 170 #[.val (.int p0), .val (.int p1), .val (.int p2), .val (.int p3), .val (.long p4), .second, .val (.int ((p0 &&& (2147483647 : Int32)) % (5 : Int32))), .val (.ref b15), .unset, .unset, .unset, .unset] [] t → Ab p e below m s₁ #[(.int p0), (.int p1), (.int p2), (.int p3), (.long p4)] maxLocals t := by
          intro t k
          refine k239 t ?_
          refine XS.iloadN X86.here hx rfl (hb hby at_163) rfl ?_
          refine XS.sipush X86.here hx rfl (hb hby at_164) ?_
          refine XS.iand X86.here hx rfl (hb hby at_167) rfl ?_
          refine XS.i2c X86.here hx rfl (hb hby at_168) rfl ?_
          refine st242 _ ?_
          exact k
        have sf246 := (Safe.wr W242 sf244 CR87.1 sf244)
        exact J90 T81.vm _ _ _ h242 b15 c15 r17 r25 r33 r41 r49 r57 ((p3 &&& (255 : Int32)).toUInt32.toUInt16.toUInt32.toInt32) r73 r81 hS (Nat.le_trans (Nat.le_trans (Nat.le_refl _) (Keep.of_wr W86).1) (Keep.of_wr W242).1) hZ hown CR243 (X242.more (by decide) (by decide)) e242 N242 O242 K242 V242 g_b15 s_b15 sf246 D17_0 D25_0 D33_0 D41_0 D49_0 D57_0 (Zi p3) D73_0 D81_0 k245
      · have k247 : ∀ t, Va p e below m T86 163 #[.val (.int p0), .val (.int p1), .val (.int p2), .val (.int p3), .val (.long p4), .second, .val (.int ((p0 &&& (2147483647 : Int32)) % (5 : Int32))), .val (.ref b15), .unset, .unset, .unset, .unset] [(.int 7), (.ref b15)] t → Ab p e below m s₁ #[(.int p0), (.int p1), (.int p2), (.int p3), (.long p4)] maxLocals t := by
          intro t k
          refine k189 t ?_
          rw [hs190]
          exact k
        obtain ⟨cl248, Ar248, q248, Sz248, Nn248, Hs248, Gf248⟩ := id V86
        have hin249 : ¬ ((7 : Int32) < 0 ∨ cl248.slots.size ≤ ((7 : Int32)).toNatClampNeg) := inb_of Sz248 ⟨by decide, by decide⟩
        obtain ⟨T250, h250, X250, e250, W250, st250⟩ := stC X86 hx hZ e86 Ar248 (j := (7 : Int32)) hin249 (g := (mkF m 169 #[.val (.int p0), .val (.int p1), .val (.int p2), .val (.int p3), .val (.long p4), .second, .val (.int ((p0 &&& (2147483647 : Int32)) % (5 : Int32))), .val (.ref b15), .unset, .unset, .unset, .unset] [(.int ((p3 &&& (255 : Int32)).toUInt32.toUInt16.toUInt32.toInt32)), (.int 7), (.ref b15)])) rfl rfl (hb hby at_169)
        have V250 : Arv Z h250 b15 c15 .char (9 : Int32) [(.int r17), (.int r25), (.int r33), (.int r41), (.int r49), (.int r57), (.int r65), (.int ((p3 &&& (255 : Int32)).toUInt32.toUInt16.toUInt32.toInt32)), (.int r81)] (.int 0) := by
          have q := Arv.set Ar248 q248 Sz248 Nn248 Hs248 Gf248 (fits_nar_char _) W250 7 rfl (Nat.le_of_ble_eq_true rfl)
          first | exact q | (simp only [Bl] at q; exact q)
        have sf252 := (Safe.wr W86 sf88 CR82.1 sf88)
        have CR251 := CR87.trans (CHr.wr W250 sf252 CR87.1)
        have N250 := Fr.snoc X250 N86 g_b15
        have O250 := O86.wr W250 g_b15
        have K250 := K86.wr W250 (Or.inr s_b15)
        have k253 : ∀ t, Va p e below m T250 170 #[.val (.int p0), .val (.int p1), .val (.int p2), .val (.int p3), .val (.long p4), .second, .val (.int ((p0 &&& (2147483647 : Int32)) % (5 : Int32))), .val (.ref b15), .unset, .unset, .unset, .unset] [] t → Ab p e below m s₁ #[(.int p0), (.int p1), (.int p2), (.int p3), (.long p4)] maxLocals t := by
          intro t k
          refine k247 t ?_
          refine XS.iloadN X86.here hx rfl (hb hby at_163) rfl ?_
          refine XS.sipush X86.here hx rfl (hb hby at_164) ?_
          refine XS.iand X86.here hx rfl (hb hby at_167) rfl ?_
          refine XS.i2c X86.here hx rfl (hb hby at_168) rfl ?_
          refine st250 _ ?_
          exact k
        have sf254 := (Safe.wr W250 sf252 CR87.1 sf252)
        exact J90 T81.vm _ _ _ h250 b15 c15 r17 r25 r33 r41 r49 r57 r65 ((p3 &&& (255 : Int32)).toUInt32.toUInt16.toUInt32.toInt32) r81 hS (Nat.le_trans (Nat.le_trans (Nat.le_refl _) (Keep.of_wr W86).1) (Keep.of_wr W250).1) hZ hown CR251 (X250.more (by decide) (by decide)) e250 N250 O250 K250 V250 g_b15 s_b15 sf254 D17_0 D25_0 D33_0 D41_0 D49_0 D57_0 D65_0 (Zi p3) D81_0 k253
      · have k255 : ∀ t, Va p e below m T86 163 #[.val (.int p0), .val (.int p1), .val (.int p2), .val (.int p3), .val (.long p4), .second, .val (.int ((p0 &&& (2147483647 : Int32)) % (5 : Int32))), .val (.ref b15), .unset, .unset, .unset, .unset] [(.int 8), (.ref b15)] t → Ab p e below m s₁ #[(.int p0), (.int p1), (.int p2), (.int p3), (.long p4)] maxLocals t := by
          intro t k
          refine k189 t ?_
          rw [hs190]
          exact k
        obtain ⟨cl256, Ar256, q256, Sz256, Nn256, Hs256, Gf256⟩ := id V86
        have hin257 : ¬ ((8 : Int32) < 0 ∨ cl256.slots.size ≤ ((8 : Int32)).toNatClampNeg) := inb_of Sz256 ⟨by decide, by decide⟩
        obtain ⟨T258, h258, X258, e258, W258, st258⟩ := stC X86 hx hZ e86 Ar256 (j := (8 : Int32)) hin257 (g := (mkF m 169 #[.val (.int p0), .val (.int p1), .val (.int p2), .val (.int p3), .val (.long p4), .second, .val (.int ((p0 &&& (2147483647 : Int32)) % (5 : Int32))), .val (.ref b15), .unset, .unset, .unset, .unset] [(.int ((p3 &&& (255 : Int32)).toUInt32.toUInt16.toUInt32.toInt32)), (.int 8), (.ref b15)])) rfl rfl (hb hby at_169)
        have V258 : Arv Z h258 b15 c15 .char (9 : Int32) [(.int r17), (.int r25), (.int r33), (.int r41), (.int r49), (.int r57), (.int r65), (.int r73), (.int ((p3 &&& (255 : Int32)).toUInt32.toUInt16.toUInt32.toInt32))] (.int 0) := by
          have q := Arv.set Ar256 q256 Sz256 Nn256 Hs256 Gf256 (fits_nar_char _) W258 8 rfl (Nat.le_of_ble_eq_true rfl)
          first | exact q | (simp only [Bl] at q; exact q)
        have sf260 := (Safe.wr W86 sf88 CR82.1 sf88)
        have CR259 := CR87.trans (CHr.wr W258 sf260 CR87.1)
        have N258 := Fr.snoc X258 N86 g_b15
        have O258 := O86.wr W258 g_b15
        have K258 := K86.wr W258 (Or.inr s_b15)
        have k261 : ∀ t, Va p e below m T258 170 #[.val (.int p0), .val (.int p1), .val (.int p2), .val (.int p3), .val (.long p4), .second, .val (.int ((p0 &&& (2147483647 : Int32)) % (5 : Int32))), .val (.ref b15), .unset, .unset, .unset, .unset] [] t → Ab p e below m s₁ #[(.int p0), (.int p1), (.int p2), (.int p3), (.long p4)] maxLocals t := by
          intro t k
          refine k255 t ?_
          refine XS.iloadN X86.here hx rfl (hb hby at_163) rfl ?_
          refine XS.sipush X86.here hx rfl (hb hby at_164) ?_
          refine XS.iand X86.here hx rfl (hb hby at_167) rfl ?_
          refine XS.i2c X86.here hx rfl (hb hby at_168) rfl ?_
          refine st258 _ ?_
          exact k
        have sf262 := (Safe.wr W258 sf260 CR87.1 sf260)
        exact J90 T81.vm _ _ _ h258 b15 c15 r17 r25 r33 r41 r49 r57 r65 r73 ((p3 &&& (255 : Int32)).toUInt32.toUInt16.toUInt32.toInt32) hS (Nat.le_trans (Nat.le_trans (Nat.le_refl _) (Keep.of_wr W86).1) (Keep.of_wr W258).1) hZ hown CR259 (X258.more (by decide) (by decide)) e258 N258 O258 K258 V258 g_b15 s_b15 sf262 D17_0 D25_0 D33_0 D41_0 D49_0 D57_0 D65_0 D73_0 (Zi p3) k261
set_option maxRecDepth 65536 in
set_option maxHeartbeats 40000000 in
theorem comes_1 {Post : Tables → Env → Array Value → State → Outcome → State → Prop} (hpost : ∀ tb e args s v u, (limb_1_1.after args s (.returned v) u = true ∧ limb_1_2.after args s (.returned v) u = true ∧ True) → ReturnedEndW s (.returned v) u (Jvm.fieldLocs frame_1_writes args s ++ Jvm.arrayLocs frame_1_arrays args s ++ Jvm.staticLocs frame_1_statics s) 32 5312 → Post tb e args s (.returned v) u) :
    ArmFor flags0 classFile x code maxLocals ret World_1 tables_1 room_1 Calls_1 rest_1 Pre_1 Post := by
  intro l hfl _ _ p e ha hc hk s m args below hf hA hF happ hP
  obtain ⟨hcalls, hrest, hpre⟩ := hP
  obtain ⟨-, -, -, hnamed, -, -, -, hat⟩ := (Spec.applies_iff hf).mp happ
  obtain ⟨hg, hn⟩ := and_e (Cond.before_iff.mp (show (Jvm.Cond.and given_1 narrow_1).before args s = true from hpre))
  obtain ⟨g0a, g0b⟩ := and_e hg
  obtain ⟨g1a, g1b⟩ := and_e g0b
  obtain ⟨g2a, g2b⟩ := and_e g1b
  obtain ⟨g3a, g3b⟩ := and_e g2b
  obtain ⟨g4a, g4b⟩ := and_e g3b
  obtain ⟨w0, w1, w2, w3, w4, rfl⟩ : ∃ w0 w1 w2 w3 w4 : Value, args = #[w0, w1, w2, w3, w4] := by
    have hs : args.size = 5 := by simpa [Cond.value, given_1] using g0a
    obtain ⟨L⟩ := args
    match L, hs with
    | [w0, w1, w2, w3, w4], _ => exact ⟨w0, w1, w2, w3, w4, rfl⟩
  have hw := fun d (hd : d ∈ tables_1) => atoms_spec (ws := Jvm.Cond.code x code maxLocals ret :: tables_1) hat d (List.mem_cons_of_mem _ hd)
  have hfit : Fit s := fun {y c} hc i hi => by
    obtain ⟨ha, rfl⟩ := Array.getElem?_eq_some_iff.mp hc
    have q := List.all_eq_true.mp ((Array.all_eq_true_iff_forall_mem.mp hF) _ (Array.getElem_mem ha)) i (List.mem_range.mpr hi)
    simpa [Array.getElem?_eq_getElem hi] using q
  obtain ⟨hsets, hown0⟩ := atoms_of _ (rest_1_c_eq ▸ (show rest_1_c.before _ s = true from hrest))
  obtain ⟨i0, ei0⟩ := is_v g1a
  obtain rfl : w0 = (.int i0) := Option.some.inj ei0
  obtain ⟨i1, ei1⟩ := is_v g2a
  obtain rfl : w1 = (.int i1) := Option.some.inj ei1
  obtain ⟨i2, ei2⟩ := is_v g3a
  obtain rfl : w2 = (.int i2) := Option.some.inj ei2
  obtain ⟨i3, ei3⟩ := is_v g4a
  obtain rfl : w3 = (.int i3) := Option.some.inj ei3
  obtain ⟨i4, ei4⟩ := isL_v g4b
  obtain rfl : w4 = (.long i4) := Option.some.inj ei4
  obtain ⟨hn1a, hn1b⟩ := and_e hn
  obtain ⟨hn2a, hn2b⟩ := and_e hn1b
  obtain ⟨hn3a, hn3b⟩ := and_e hn2b
  obtain ⟨hn4a, hn4b⟩ := and_e hn3b
  obtain ⟨hn5a, hn5b⟩ := and_e hn4b
  obtain ⟨hn6a, hn6b⟩ := and_e hn5b
  obtain ⟨hn7a, hn7b⟩ := and_e hn6b
  obtain ⟨hn8a, hn8b⟩ := and_e hn7b
  obtain ⟨hn9a, hn9b⟩ := and_e hn8b
  obtain ⟨hn10a, hn10b⟩ := and_e hn9b
  obtain ⟨hn11a, hn11b⟩ := and_e hn10b
  obtain ⟨hn12a, hn12b⟩ := and_e hn11b
  obtain ⟨hn13a, hn13b⟩ := and_e hn12b
  obtain ⟨hn14a, hn14b⟩ := and_e hn13b
  obtain ⟨hn15a, hn15b⟩ := and_e hn14b
  obtain ⟨hn16a, hn16b⟩ := and_e hn15b
  obtain ⟨hn17a, hn17b⟩ := and_e hn16b
  obtain ⟨hn18a, hn18b⟩ := and_e hn17b
  obtain ⟨hn19a, hn19b⟩ := and_e hn18b
  obtain ⟨hn20a, hn20b⟩ := and_e hn19b
  obtain ⟨hn21a, hn21b⟩ := and_e hn20b
  obtain ⟨hn22a, hn22b⟩ := and_e hn21b
  obtain ⟨hn23a, hn23b⟩ := and_e hn22b
  obtain ⟨hn24a, hn24b⟩ := and_e hn23b
  obtain ⟨hn25a, hn25b⟩ := and_e hn24b
  obtain ⟨hn26a, hn26b⟩ := and_e hn25b
  obtain ⟨hn27a, hn27b⟩ := and_e hn26b
  obtain ⟨hn28a, hn28b⟩ := and_e hn27b
  obtain ⟨hn29a, hn29b⟩ := and_e hn28b
  obtain ⟨hn30a, hn30b⟩ := and_e hn29b
  obtain ⟨hn31a, hn31b⟩ := and_e hn30b
  obtain ⟨hn32a, hn32b⟩ := and_e hn31b
  obtain ⟨hn33a, hn33b⟩ := and_e hn32b
  obtain ⟨hn34a, hn34b⟩ := and_e hn33b
  obtain ⟨hn35a, hn35b⟩ := and_e hn34b
  obtain ⟨hn36a, hn36b⟩ := and_e hn35b
  obtain ⟨hn37a, hn37b⟩ := and_e hn36b
  obtain ⟨hn38a, hn38b⟩ := and_e hn37b
  obtain ⟨hn39a, hn39b⟩ := and_e hn38b
  obtain ⟨hn40a, hn40b⟩ := and_e hn39b
  obtain ⟨hn41a, hn41b⟩ := and_e hn40b
  obtain ⟨Ra, Rm⟩ := exa_v hn1a
  have Hh := Sta.start Rm (Or.inr ⟨(Da hw 84 rfl), (Da hw 85 rfl)⟩)
  have Mh := Exa.start Rm hn1a
  obtain ⟨Ya, Gl⟩ := arr_v hn2a
  have Ih := Sta.start Gl (Or.inr ⟨(Da hw 84 rfl), (Da hw 93 rfl)⟩)
  have Kh := Exa.start Gl hn3a
  obtain ⟨Pa, Lm⟩ := exa_v hn6a
  have Rg := Sta.start Lm (Or.inr ⟨(Da hw 84 rfl), (Da hw 101 rfl)⟩)
  have Gh := Exa.start Lm hn6a
  obtain ⟨Wa, Uo⟩ := exa_v hn8a
  have Ki := Sta.start Uo (Or.inr ⟨(Da hw 84 rfl), (Da hw 102 rfl)⟩)
  have Li := Exa.start Uo hn8a
  obtain ⟨Ma, Kl⟩ := exa_v hn10a
  have Dd := Fld.start ((fld_at Rm).symm.trans Kl)
  have Zb := Exa.start Kl hn10a
  have Lb := Fld.start ((fld_at Kl).symm.trans (Hg hn11a))
  obtain ⟨Ga, Rd⟩ := arr_v hn12a
  have Mb := Fld.start ((fld_at Kl).symm.trans Rd)
  obtain ⟨Ka, Hl⟩ := exa_v hn14a
  have Ad := Fld.start ((fld_at Lm).symm.trans Hl)
  have Bc := Exa.start Hl hn14a
  have Pb := Fld.start ((fld_at Hl).symm.trans (Hg hn15a))
  obtain ⟨Ba, Gd⟩ := arr_v hn16a
  have Rb := Fld.start ((fld_at Hl).symm.trans Gd)
  obtain ⟨Ua, Ul⟩ := exa_v hn18a
  have Pd := Fld.start ((fld_at Uo).symm.trans Ul)
  have Hd := Exa.start Ul hn18a
  have Dc := Fld.start ((fld_at Ul).symm.trans (Hg hn19a))
  obtain ⟨Ha, Wd⟩ := arr_v hn20a
  have Gc := Fld.start ((fld_at Ul).symm.trans Wd)
  obtain ⟨La, Pm⟩ := is_v (Cond.before_iff.mp (hsets _ (List.mem_of_getElem? (i := 1) rfl)))
  have Bb := Sta.start Pm (Or.inl (hsets _ (List.mem_of_getElem? (i := 0) rfl)))
  have Za := Du Pm (Cond.before_iff.mp (hsets _ (List.mem_of_getElem? (i := 2) rfl)))
  obtain ⟨Ia, Vp, Wp⟩ := isR_v (Cond.before_iff.mp (hsets _ (List.mem_of_getElem? (i := 8) rfl)))
  have Zc := Sta.start Vp (Or.inl (hsets _ (List.mem_of_getElem? (i := 7) rfl)))
  have Yc := Wp
  obtain ⟨Hv, Gm⟩ := Arr.start Gl hn2a
  have Lh := Bj.start (dv := .null) (vs := [(.ref Ra), (.ref Pa), (.ref Wa)]) hfit Gm (Is Gl Gm hn4a) (by decide) rfl ⟨He Gl Gm (Vs hn5a Rm) 0 (by decide), He Gl Gm (Vs hn7a Lm) 1 (by decide), He Gl Gm (Vs hn9a Uo) 2 (by decide), trivial⟩
  obtain ⟨Ht, Ud⟩ := Arr.start Rd hn12a
  have Gb := Bj.start (dv := (.int 0)) (vs := [(.int 112), (.int 101), (.int 110), (.int 100), (.int 105), (.int 110), (.int 103)]) hfit Ud (Is Rd Ud hn13a) (by decide) rfl ⟨He Rd Ud (Hg hn22a) 0 (by decide), He Rd Ud (Hg hn23a) 1 (by decide), He Rd Ud (Hg hn24a) 2 (by decide), He Rd Ud (Hg hn25a) 3 (by decide), He Rd Ud (Hg hn26a) 4 (by decide), He Rd Ud (Hg hn27a) 5 (by decide), He Rd Ud (Hg hn28a) 6 (by decide), trivial⟩
  obtain ⟨Gt, Id⟩ := Arr.start Gd hn16a
  have Db := Bj.start (dv := (.int 0)) (vs := [(.int 97), (.int 112), (.int 112), (.int 114), (.int 111), (.int 118), (.int 101), (.int 100)]) hfit Id (Is Gd Id hn17a) (by decide) rfl ⟨He Gd Id (Hg hn29a) 0 (by decide), He Gd Id (Hg hn30a) 1 (by decide), He Gd Id (Hg hn31a) 2 (by decide), He Gd Id (Hg hn32a) 3 (by decide), He Gd Id (Hg hn33a) 4 (by decide), He Gd Id (Hg hn34a) 5 (by decide), He Gd Id (Hg hn35a) 6 (by decide), He Gd Id (Hg hn36a) 7 (by decide), trivial⟩
  obtain ⟨It, Yf⟩ := Arr.start Wd hn20a
  have Hb := Bj.start (dv := (.int 0)) (vs := [(.int 100), (.int 101), (.int 110), (.int 105), (.int 101), (.int 100)]) hfit Yf (Is Wd Yf hn21a) (by decide) rfl ⟨He Wd Yf (Hg hn37a) 0 (by decide), He Wd Yf (Hg hn38a) 1 (by decide), He Wd Yf (Hg hn39a) 2 (by decide), He Wd Yf (Hg hn40a) 3 (by decide), He Wd Yf (Hg hn41a) 4 (by decide), He Wd Yf (Hg hn41b) 5 (by decide), trivial⟩
  obtain ⟨n, o, h1, h2, h3, _, L, rfl, ⟨rfl, N⟩, hq⟩ := rm_law l s _ hw tables_1 i0 i1 i2 i3 i4 Ra Ya Pa Wa Ma Ga Ka Ba Ua Ha La Ia s.heap s.heap.size (Old.start s) ⟨Hh, Mh, Ih, Kh, Rg, Gh, Ki, Li, Dd, Zb, Lb, Mb, Ad, Bc, Pb, Rb, Pd, Hd, Dc, Gc, Bb, Za, Zc, Yc, Lh, Gb, Db, Hb⟩  p e ha hc hk s m _ below hf ((Spec.applies_iff_loose hf).mp happ).1 ⟨rfl, State.Warmed39.refl s, rfl, CHv.start (Vd hw) (fun p hp => hcalls.1 p hp) (hsets _ (List.mem_of_getElem? (i := 2) rfl)) (Da hw 9 rfl) (Da hw 8 rfl)⟩ trivial
  refine ⟨n, _, h1, h2, h3, hpost _ _ _ _ _ _ ⟨Cond.after_iff.mpr rfl, Cond.after_iff.mpr (eq_i res_at (Term.int_eval (1)) rfl), trivial⟩ ⟨hq.1, hq.2.1, hq.2.2.1, (hq.2.2.2.sift fun y hy => Or.inr (N y hy)).mono (by decide) (by decide)⟩⟩
theorem main_1_1 : Claimed_1_1 := comes_1 fun _ _ _ _ _ _ h hF => ⟨h.1, hF⟩
theorem main_1_2 : Claimed_1_2 := comes_1 fun _ _ _ _ _ _ h hF => ⟨h.2.1, hF⟩
end Jvm.Pilot.@@N@@
namespace Jvm.Pilot.@@N@@
open Jvm Jvm.ClassFile Sem Op Lib Jvm.Free Jvm.Stand Jvm.Pilot.@@N@@.Jvm.D
/-! MADE BY PROGRAM (witnessworld.py) out of the Statement's table words and the real class files: 22 classes; the members and pool entries that the words name. The judged class is class 1, her method 3. -/
namespace start1
open Jvm.ClassFile
def u (s : String) : CpInfo := .utf8 (stringToUtf16 s)
/-- a pool by its gaps: so many unusable entries, then the entry; so many at the end -/
def gap : Nat → List CpInfo → List CpInfo
  | 0, r => r
  | n + 1, r => .unusable :: gap n r
def poolList (es : List (Nat × CpInfo)) (last : Nat) : List CpInfo := es.foldr (fun e r => gap e.1 (e.2 :: r)) (gap last [])
def pool (es : List (Nat × CpInfo)) (last : Nat) : Array CpInfo := ⟨poolList es last⟩
def fileOf (pool : Array CpInfo) (this : Nat) (attrs : Array Attribute := #[]) (ms : Array MethodInfo := #[]) (fl : Nat := 33) (sup : Nat := 0) (ifs : Array Nat := #[]) (fds : Array FieldInfo := #[]) : ClassFile where
  minorVersion := 0
  majorVersion := 65
  constantPool := pool
  accessFlags := fl
  thisClass := this
  superClass := sup
  interfaces := ifs
  fields := fds
  methods := ms
  attributes := attrs
def plain (name : String) (sup : Option ClassId) : Class where
  name := name
  kind := .ordinary
  loader := none
  accessFlags := 33
  super := sup
  interfaces := #[]
  cf := none
  fields := #[]
  methods := #[]
  instanceTypes := #[]
  staticTypes := #[]
  resolved := #[]
  callSites := []
  init := .initialized
  statics := none
  mirror := none

def pool0 : Array CpInfo := pool [(5, u "<init>"), (0, u "()V"), (1, .class_ 10), (1, u "java/lang/Object"), (85, u "clone"), (0, u "()Ljava/lang/Object;")] 26

def k0c0 : Code := { maxStack := 0, maxLocals := 1, code := object_method_1_code, exceptionTable := #[], attributes := #[] }
def k0m0 : Method := { name := "<init>", desc := "()V", sig := { parameters := [], returnType := none }, accessFlags := 1, code := some k0c0 }
def k0m1 : Method := { name := "clone", desc := "()Ljava/lang/Object;", sig := { parameters := [], returnType := some (.object "java/lang/Object") }, accessFlags := 260, code := none }
/-- java/lang/Object -/
def k0 : Class := { plain "java/lang/Object" none with
  accessFlags := 33
  interfaces := #[]
  cf := some (fileOf pool0 8 #[] #[{ accessFlags := 1, nameIndex := 5, descriptorIndex := 6, attributes := #[] }, { accessFlags := 260, nameIndex := 96, descriptorIndex := 97, attributes := #[] }] 33 0 #[] #[])
  fields := #[]
  methods := #[k0m0, k0m1]
  instanceTypes := #[]
  staticTypes := #[]
  resolved := Array.replicate 124 none
  statics := none }

def pool1 : Array CpInfo := pool [(2, .class_ 4), (1, u "java/lang/Object"), (0, u "<init>"), (0, u "()V"), (0, .string 8), (0, u "pending"), (0, .string 10), (0, u "approved"), (0, .string 12), (0, u "denied"), (0, .string 14), (0, u ""), (0, .methodref 16 17), (0, .class_ 18), (0, .nameAndType 19 20), (0, u "java/lang/String"), (0, u "length"), (0, u "()I"), (0, .methodref 16 22), (0, .nameAndType 23 24), (0, u "charAt"), (0, u "(I)C"), (0, .long 255), (1, .methodref 16 28), (0, .nameAndType 5 29), (0, u "([C)V"), (0, .integer 2147483647), (0, .methodref 32 33), (0, .class_ 34), (0, .nameAndType 35 36), (0, u "com/example/kwota/kwota/AdjustmentRequest$State"), (0, u "named"), (0, u "(Ljava/lang/String;)Lcom/example/kwota/kwota/AdjustmentRequest$State;"), (0, .methodref 38 39), (0, .class_ 40), (0, .nameAndType 41 42), (0, u "com/example/kwota/kwota/StateNamedPinLaw"), (0, u "at"), (0, u "(IIJ)C"), (0, .methodref 38 44), (0, .nameAndType 45 46), (0, u "str"), (0, u "([CI)Ljava/lang/String;"), (0, .methodref 16 48), (0, .nameAndType 49 50), (0, u "equals"), (0, u "(Ljava/lang/Object;)Z"), (0, .fieldref 32 52), (0, .nameAndType 53 54), (0, u "PENDING"), (0, u "Lcom/example/kwota/kwota/AdjustmentRequest$State;"), (0, .fieldref 32 56), (0, .nameAndType 57 54), (0, u "APPROVED"), (0, .fieldref 32 59), (0, .nameAndType 60 54), (0, u "DENIED"), (5, u "law"), (0, u "(IIIIJ)Z")] 6

def k1m0 : Method := { name := "<init>", desc := "()V", sig := { parameters := [], returnType := none }, accessFlags := 1, code := none }
def k1c1 : Code := { maxStack := 4, maxLocals := 5, code := method_2_code, exceptionTable := #[], attributes := #[] }
def k1m1 : Method := { name := "at", desc := "(IIJ)C", sig := { parameters := [.int, .int, .long], returnType := some .char }, accessFlags := 10, code := some k1c1 }
def k1c2 : Code := { maxStack := 4, maxLocals := 3, code := method_3_code, exceptionTable := #[], attributes := #[] }
def k1m2 : Method := { name := "str", desc := "([CI)Ljava/lang/String;", sig := { parameters := [(.array .char), .int], returnType := some (.object "java/lang/String") }, accessFlags := 10, code := some k1c2 }
def k1c3 : Code := { maxStack := 6, maxLocals := 12, code := code, exceptionTable := #[], attributes := #[] }
def k1m3 : Method := { name := "law", desc := "(IIIIJ)Z", sig := { parameters := [.int, .int, .int, .int, .long], returnType := some .boolean }, accessFlags := 9, code := some k1c3 }
/-- com/example/kwota/kwota/StateNamedPinLaw -/
def k1 : Class := { plain "com/example/kwota/kwota/StateNamedPinLaw" (some 0) with
  accessFlags := 49
  interfaces := #[]
  cf := some (fileOf pool1 38 #[] #[{ accessFlags := 1, nameIndex := 5, descriptorIndex := 6, attributes := #[] }, { accessFlags := 10, nameIndex := 41, descriptorIndex := 42, attributes := #[] }, { accessFlags := 10, nameIndex := 45, descriptorIndex := 46, attributes := #[] }, { accessFlags := 9, nameIndex := 66, descriptorIndex := 67, attributes := #[] }] 49 2 #[] #[])
  fields := #[]
  methods := #[k1m0, k1m1, k1m2, k1m3]
  instanceTypes := #[]
  staticTypes := #[]
  resolved := Array.replicate 74 none
  statics := none }

def pool2 : Array CpInfo := pool [(1, .class_ 2), (0, u "java/io/Serializable"), (0, .class_ 4), (0, u "java/lang/Object")] 2

/-- java/io/Serializable -/
def k2 : Class := { plain "java/io/Serializable" (some 0) with
  accessFlags := 1537
  interfaces := #[]
  cf := some (fileOf pool2 1 #[] #[] 1537 3 #[] #[])
  fields := #[]
  methods := #[]
  instanceTypes := #[]
  staticTypes := #[]
  resolved := Array.replicate 7 none
  statics := none }

def pool3 : Array CpInfo := pool [(1, .class_ 2), (0, u "java/lang/Comparable"), (0, .class_ 4), (0, u "java/lang/Object")] 7

/-- java/lang/Comparable -/
def k3 : Class := { plain "java/lang/Comparable" (some 0) with
  accessFlags := 1537
  interfaces := #[]
  cf := some (fileOf pool3 1 #[] #[] 1537 3 #[] #[])
  fields := #[]
  methods := #[]
  instanceTypes := #[]
  staticTypes := #[]
  resolved := Array.replicate 12 none
  statics := none }

def pool4 : Array CpInfo := pool [(2, .class_ 4), (1, u "java/lang/CharSequence"), (42, .class_ 48), (0, u "java/lang/CharSequence$1CodePointIterator"), (10, .class_ 60), (0, u "java/lang/CharSequence$1CharIterator"), (5, .class_ 67), (0, u "java/lang/Object")] 63

/-- java/lang/CharSequence -/
def k4 : Class := { plain "java/lang/CharSequence" (some 0) with
  accessFlags := 1537
  interfaces := #[]
  cf := some (fileOf pool4 2 #[.nestMembers #[47, 59]] #[] 1537 66 #[] #[])
  fields := #[]
  methods := #[]
  instanceTypes := #[]
  staticTypes := #[]
  resolved := Array.replicate 131 none
  statics := none }

def pool5 : Array CpInfo := pool [(1, .class_ 2), (0, u "java/lang/constant/Constable"), (0, .class_ 4), (0, u "java/lang/Object")] 6

/-- java/lang/constant/Constable -/
def k5 : Class := { plain "java/lang/constant/Constable" (some 0) with
  accessFlags := 1537
  interfaces := #[]
  cf := some (fileOf pool5 1 #[] #[] 1537 3 #[] #[])
  fields := #[]
  methods := #[]
  instanceTypes := #[]
  staticTypes := #[]
  resolved := Array.replicate 11 none
  statics := none }

def pool6 : Array CpInfo := pool [(1, .class_ 2), (0, u "java/lang/constant/ConstantDesc"), (0, .class_ 4), (0, u "java/lang/Object")] 32

/-- java/lang/constant/ConstantDesc -/
def k6 : Class := { plain "java/lang/constant/ConstantDesc" (some 0) with
  accessFlags := 1537
  interfaces := #[]
  cf := some (fileOf pool6 1 #[] #[] 1537 3 #[] #[])
  fields := #[]
  methods := #[]
  instanceTypes := #[]
  staticTypes := #[]
  resolved := Array.replicate 37 none
  statics := none }

def pool7 : Array CpInfo := pool [(1, .methodref 2 3), (0, .class_ 4), (0, .nameAndType 5 6), (0, u "java/lang/Object"), (0, u "<init>"), (0, u "()V"), (0, .string 8), (0, u ""), (0, .fieldref 10 11), (0, .class_ 12), (0, .nameAndType 13 14), (0, u "java/lang/String"), (0, u "value"), (0, u "[B"), (0, .fieldref 10 16), (0, .nameAndType 17 18), (0, u "coder"), (0, u "B"), (2, u "hash"), (0, u "I"), (2, u "hashIsZero"), (0, u "Z"), (0, .methodref 10 28), (0, .nameAndType 5 29), (0, u "([CIILjava/lang/Void;)V"), (8, .fieldref 10 39), (0, .nameAndType 40 26), (0, u "COMPACT_STRINGS"), (1, .class_ 44), (1, u "java/lang/StringUTF16"), (0, u "compress"), (1, .methodref 42 48), (0, .nameAndType 49 50), (0, u "coderFromArrayLen"), (0, u "([BI)B"), (56, .class_ 109), (1, u "java/lang/StringLatin1"), (32, u "()Z"), (34, .methodref 42 178), (0, .nameAndType 45 179), (0, u "([CII)[B"), (154, u "()I"), (0, .methodref 10 336), (0, .nameAndType 17 337), (0, u "()B"), (25, u "([BI)C"), (27, u "(II)V"), (35, u "(I)C"), (64, .methodref 10 493), (0, .nameAndType 494 142), (0, u "isLatin1"), (0, .methodref 107 496), (0, .nameAndType 497 363), (0, u "charAt"), (3, u "checkIndex"), (5, u "length"), (33, .methodref 107 542), (0, .nameAndType 543 544), (0, u "equals"), (0, u "([B[B)Z"), (28, u "(Ljava/lang/Object;)Z"), (1, .class_ 576), (0, u "java/lang/CharSequence"), (22, u "CASE_INSENSITIVE_ORDER"), (0, u "Ljava/util/Comparator;"), (409, u "([C)V"), (42, .fieldref 1054 1055), (0, .class_ 1056), (0, .nameAndType 1057 1058), (0, u "jdk/internal/util/Preconditions"), (0, u "SIOOBE_FORMATTER"), (0, u "Ljava/util/function/BiFunction;"), (0, .methodref 1054 1060), (0, .nameAndType 501 1061), (0, u "(IILjava/util/function/BiFunction;)I"), (39, u "serialPersistentFields"), (0, u "[Ljava/io/ObjectStreamField;"), (0, .class_ 1104), (0, u "java/lang/String$CaseInsensitiveComparator"), (1, .class_ 1107), (0, u "java/io/Serializable"), (0, .class_ 1109), (0, u "java/lang/Comparable"), (0, .class_ 1111), (0, u "java/lang/constant/Constable"), (0, .class_ 1113), (0, u "java/lang/constant/ConstantDesc"), (2, u "serialVersionUID"), (0, u "J"), (3, u "REPL"), (0, u "C"), (2, u "LATIN1"), (1, u "UTF16")] 323

def k7m0 : Method := { name := "<init>", desc := "()V", sig := { parameters := [], returnType := none }, accessFlags := 1, code := none }
def k7c1 : Code := { maxStack := 5, maxLocals := 2, code := jdk_42_method_3_code, exceptionTable := #[], attributes := #[] }
def k7m1 : Method := { name := "<init>", desc := "([C)V", sig := { parameters := [(.array .char)], returnType := none }, accessFlags := 1, code := some k7c1 }
def k7c2 : Code := { maxStack := 2, maxLocals := 1, code := jdk_42_method_54_code, exceptionTable := #[], attributes := #[] }
def k7m2 : Method := { name := "length", desc := "()I", sig := { parameters := [], returnType := some .int }, accessFlags := 1, code := some k7c2 }
def k7c3 : Code := { maxStack := 2, maxLocals := 2, code := jdk_42_method_56_code, exceptionTable := #[], attributes := #[] }
def k7m3 : Method := { name := "charAt", desc := "(I)C", sig := { parameters := [.int], returnType := some .char }, accessFlags := 1, code := some k7c3 }
def k7c4 : Code := { maxStack := 2, maxLocals := 3, code := jdk_42_method_66_code, exceptionTable := #[], attributes := #[] }
def k7m4 : Method := { name := "equals", desc := "(Ljava/lang/Object;)Z", sig := { parameters := [(.object "java/lang/Object")], returnType := some .boolean }, accessFlags := 1, code := some k7c4 }
def k7c5 : Code := { maxStack := 4, maxLocals := 6, code := jdk_42_method_149_code, exceptionTable := #[], attributes := #[] }
def k7m5 : Method := { name := "<init>", desc := "([CIILjava/lang/Void;)V", sig := { parameters := [(.array .char), .int, .int, (.object "java/lang/Void")], returnType := none }, accessFlags := 2, code := some k7c5 }
def k7c6 : Code := { maxStack := 1, maxLocals := 1, code := jdk_42_method_152_code, exceptionTable := #[], attributes := #[] }
def k7m6 : Method := { name := "coder", desc := "()B", sig := { parameters := [], returnType := some .byte }, accessFlags := 0, code := some k7c6 }
def k7c7 : Code := { maxStack := 1, maxLocals := 1, code := jdk_42_method_154_code, exceptionTable := #[], attributes := #[] }
def k7m7 : Method := { name := "isLatin1", desc := "()Z", sig := { parameters := [], returnType := some .boolean }, accessFlags := 0, code := some k7c7 }
def k7c8 : Code := { maxStack := 3, maxLocals := 2, code := jdk_42_method_155_code, exceptionTable := #[], attributes := #[] }
def k7m8 : Method := { name := "checkIndex", desc := "(II)V", sig := { parameters := [.int, .int], returnType := none }, accessFlags := 8, code := some k7c8 }
/-- java/lang/String -/
def k7 : Class := { plain "java/lang/String" (some 0) with
  accessFlags := 49
  interfaces := #[2, 3, 4, 5, 6]
  cf := some (fileOf pool7 10 #[.nestMembers #[1103]] #[{ accessFlags := 1, nameIndex := 5, descriptorIndex := 6, attributes := #[] }, { accessFlags := 1, nameIndex := 5, descriptorIndex := 1010, attributes := #[] }, { accessFlags := 1, nameIndex := 507, descriptorIndex := 334, attributes := #[] }, { accessFlags := 1, nameIndex := 497, descriptorIndex := 427, attributes := #[] }, { accessFlags := 1, nameIndex := 543, descriptorIndex := 573, attributes := #[] }, { accessFlags := 2, nameIndex := 5, descriptorIndex := 29, attributes := #[] }, { accessFlags := 0, nameIndex := 17, descriptorIndex := 337, attributes := #[] }, { accessFlags := 0, nameIndex := 494, descriptorIndex := 142, attributes := #[] }, { accessFlags := 8, nameIndex := 501, descriptorIndex := 391, attributes := #[] }] 49 2 #[1106, 1108, 575, 1110, 1112] #[{ accessFlags := 18, nameIndex := 13, descriptorIndex := 14, attributes := #[] }, { accessFlags := 18, nameIndex := 17, descriptorIndex := 18, attributes := #[] }, { accessFlags := 2, nameIndex := 21, descriptorIndex := 22, attributes := #[] }, { accessFlags := 2, nameIndex := 25, descriptorIndex := 26, attributes := #[] }, { accessFlags := 26, nameIndex := 1116, descriptorIndex := 1117, attributes := #[] }, { accessFlags := 24, nameIndex := 40, descriptorIndex := 26, attributes := #[] }, { accessFlags := 26, nameIndex := 1101, descriptorIndex := 1102, attributes := #[] }, { accessFlags := 26, nameIndex := 1121, descriptorIndex := 1122, attributes := #[] }, { accessFlags := 25, nameIndex := 599, descriptorIndex := 600, attributes := #[] }, { accessFlags := 24, nameIndex := 1125, descriptorIndex := 18, attributes := #[] }, { accessFlags := 24, nameIndex := 1127, descriptorIndex := 18, attributes := #[] }])
  fields := #[{ name := "value", type := (.array .byte), accessFlags := 18, slot := 0, constantValue := 0 }, { name := "coder", type := .byte, accessFlags := 18, slot := 1, constantValue := 0 }, { name := "hash", type := .int, accessFlags := 2, slot := 2, constantValue := 0 }, { name := "hashIsZero", type := .boolean, accessFlags := 2, slot := 3, constantValue := 0 }, { name := "serialVersionUID", type := .long, accessFlags := 26, slot := 0, constantValue := 0 }, { name := "COMPACT_STRINGS", type := .boolean, accessFlags := 24, slot := 1, constantValue := 0 }, { name := "serialPersistentFields", type := (.array (.object "java/io/ObjectStreamField")), accessFlags := 26, slot := 2, constantValue := 0 }, { name := "REPL", type := .char, accessFlags := 26, slot := 3, constantValue := 0 }, { name := "CASE_INSENSITIVE_ORDER", type := (.object "java/util/Comparator"), accessFlags := 25, slot := 4, constantValue := 0 }, { name := "LATIN1", type := .byte, accessFlags := 24, slot := 5, constantValue := 0 }, { name := "UTF16", type := .byte, accessFlags := 24, slot := 6, constantValue := 0 }]
  methods := #[k7m0, k7m1, k7m2, k7m3, k7m4, k7m5, k7m6, k7m7, k7m8]
  instanceTypes := #[(.array .byte), .byte, .int, .boolean]
  staticTypes := #[.long, .boolean, (.array (.object "java/io/ObjectStreamField")), .char, (.object "java/util/Comparator"), .byte, .byte]
  resolved := Array.replicate 1451 none
  statics := some 0 }

def pool8 : Array CpInfo := pool [(1, .class_ 2), (0, u "java/lang/String"), (1, .class_ 6), (1, u "java/lang/Object"), (0, u "<init>"), (0, u "()V"), (0, .methodref 1 10), (0, .nameAndType 11 12), (0, u "checkIndex"), (0, u "(II)V"), (1, .class_ 16), (1, u "java/lang/StringLatin1"), (36, u "([BI)C"), (67, u "$assertionsDisabled"), (0, u "Z"), (98, .class_ 223), (1, u "java/lang/StringLatin1$LinesSpliterator"), (28, u "charAt"), (28, u "equals"), (0, u "([B[B)Z"), (107, .class_ 391), (0, u "java/lang/StringLatin1$CharsSpliterator")] 3

def k8m0 : Method := { name := "<init>", desc := "()V", sig := { parameters := [], returnType := none }, accessFlags := 0, code := none }
def k8c1 : Code := { maxStack := 2, maxLocals := 2, code := jdk_43_method_2_code, exceptionTable := #[], attributes := #[] }
def k8m1 : Method := { name := "charAt", desc := "([BI)C", sig := { parameters := [(.array .byte), .int], returnType := some .char }, accessFlags := 9, code := some k8c1 }
def k8c2 : Code := { maxStack := 3, maxLocals := 3, code := jdk_43_method_13_code, exceptionTable := #[], attributes := #[] }
def k8m2 : Method := { name := "equals", desc := "([B[B)Z", sig := { parameters := [(.array .byte), (.array .byte)], returnType := some .boolean }, accessFlags := 9, code := some k8c2 }
/-- java/lang/StringLatin1 -/
def k8 : Class := { plain "java/lang/StringLatin1" (some 0) with
  accessFlags := 48
  interfaces := #[]
  cf := some (fileOf pool8 14 #[.nestMembers #[390, 221]] #[{ accessFlags := 0, nameIndex := 7, descriptorIndex := 8, attributes := #[] }, { accessFlags := 9, nameIndex := 252, descriptorIndex := 53, attributes := #[] }, { accessFlags := 9, nameIndex := 281, descriptorIndex := 282, attributes := #[] }] 48 4 #[] #[{ accessFlags := 4120, nameIndex := 121, descriptorIndex := 122, attributes := #[] }])
  fields := #[{ name := "$assertionsDisabled", type := .boolean, accessFlags := 4120, slot := 0, constantValue := 0 }]
  methods := #[k8m0, k8m1, k8m2]
  instanceTypes := #[]
  staticTypes := #[.boolean]
  resolved := Array.replicate 395 none
  statics := none }

def pool9 : Array CpInfo := pool [(2, .class_ 4), (1, u "java/lang/Object"), (0, u "<init>"), (0, u "()V"), (17, .class_ 26), (1, u "jdk/internal/util/Preconditions"), (6, u "checkIndex"), (21, .class_ 56), (0, u "jdk/internal/util/Preconditions$4"), (57, .class_ 115), (0, u "jdk/internal/util/Preconditions$1"), (7, u "SIOOBE_FORMATTER"), (0, u "Ljava/util/function/BiFunction;"), (0, .class_ 126), (0, u "jdk/internal/util/Preconditions$2"), (3, u "AIOOBE_FORMATTER"), (0, .class_ 132), (0, u "jdk/internal/util/Preconditions$3"), (3, u "IOOBE_FORMATTER"), (41, u "(IILjava/util/function/BiFunction;)I")] 15

def k9m0 : Method := { name := "<init>", desc := "()V", sig := { parameters := [], returnType := none }, accessFlags := 1, code := none }
def k9c1 : Code := { maxStack := 3, maxLocals := 3, code := jdk_41_method_11_code, exceptionTable := #[], attributes := #[] }
def k9m1 : Method := { name := "checkIndex", desc := "(IILjava/util/function/BiFunction;)I", sig := { parameters := [.int, .int, (.object "java/util/function/BiFunction")], returnType := some .int }, accessFlags := 9, code := some k9c1 }
/-- jdk/internal/util/Preconditions -/
def k9 : Class := { plain "jdk/internal/util/Preconditions" (some 0) with
  accessFlags := 33
  interfaces := #[]
  cf := some (fileOf pool9 24 #[.nestMembers #[55, 131, 125, 114]] #[{ accessFlags := 1, nameIndex := 5, descriptorIndex := 6, attributes := #[] }, { accessFlags := 9, nameIndex := 33, descriptorIndex := 178, attributes := #[] }] 33 2 #[] #[{ accessFlags := 25, nameIndex := 123, descriptorIndex := 124, attributes := #[] }, { accessFlags := 25, nameIndex := 130, descriptorIndex := 124, attributes := #[] }, { accessFlags := 25, nameIndex := 136, descriptorIndex := 124, attributes := #[] }])
  fields := #[{ name := "SIOOBE_FORMATTER", type := (.object "java/util/function/BiFunction"), accessFlags := 25, slot := 0, constantValue := 0 }, { name := "AIOOBE_FORMATTER", type := (.object "java/util/function/BiFunction"), accessFlags := 25, slot := 1, constantValue := 0 }, { name := "IOOBE_FORMATTER", type := (.object "java/util/function/BiFunction"), accessFlags := 25, slot := 2, constantValue := 0 }]
  methods := #[k9m0, k9m1]
  instanceTypes := #[]
  staticTypes := #[(.object "java/util/function/BiFunction"), (.object "java/util/function/BiFunction"), (.object "java/util/function/BiFunction")]
  resolved := Array.replicate 194 none
  statics := some 1 }

def pool10 : Array CpInfo := pool [(6, .class_ 8), (1, u "java/lang/Object"), (0, u "<init>"), (0, u "()V"), (1, .class_ 14), (1, u "java/lang/StringUTF16"), (31, u "$assertionsDisabled"), (0, u "Z"), (13, u "HI_BYTE_SHIFT"), (0, u "I"), (2, u "LO_BYTE_SHIFT"), (49, .methodref 12 116), (0, .nameAndType 117 118), (0, u "compress"), (0, u "([CI[BII)I"), (3, u "([CII)[B"), (138, u "coderFromArrayLen"), (0, u "([BI)B"), (106, .class_ 371), (1, u "java/lang/StringUTF16$LinesSpliterator"), (58, u "MAX_LENGTH"), (196, .class_ 628), (0, u "java/lang/StringUTF16$CodePointsSpliterator"), (0, .class_ 630), (0, u "java/lang/StringUTF16$CharsSpliterator")] 4

def k10m0 : Method := { name := "<init>", desc := "()V", sig := { parameters := [], returnType := none }, accessFlags := 0, code := none }
def k10c1 : Code := { maxStack := 2, maxLocals := 2, code := jdk_52_method_15_code, exceptionTable := #[], attributes := #[] }
def k10m1 : Method := { name := "coderFromArrayLen", desc := "([BI)B", sig := { parameters := [(.array .byte), .int], returnType := some .byte }, accessFlags := 8, code := some k10c1 }
def k10c2 : Code := { maxStack := 5, maxLocals := 6, code := jdk_52_method_16_code, exceptionTable := #[], attributes := #[] }
def k10m2 : Method := { name := "compress", desc := "([CII)[B", sig := { parameters := [(.array .char), .int, .int], returnType := some (.array .byte) }, accessFlags := 9, code := some k10c2 }
def k10c3 : Code := { maxStack := 3, maxLocals := 7, code := jdk_52_method_21_code, exceptionTable := #[], attributes := #[] }
def k10m3 : Method := { name := "compress", desc := "([CI[BII)I", sig := { parameters := [(.array .char), .int, (.array .byte), .int, .int], returnType := some .int }, accessFlags := 9, code := some k10c3 }
/-- java/lang/StringUTF16 -/
def k10 : Class := { plain "java/lang/StringUTF16" (some 0) with
  accessFlags := 48
  interfaces := #[]
  cf := some (fileOf pool10 12 #[.nestMembers #[627, 629, 369]] #[{ accessFlags := 0, nameIndex := 9, descriptorIndex := 10, attributes := #[] }, { accessFlags := 8, nameIndex := 261, descriptorIndex := 262, attributes := #[] }, { accessFlags := 9, nameIndex := 117, descriptorIndex := 122, attributes := #[] }, { accessFlags := 9, nameIndex := 117, descriptorIndex := 118, attributes := #[] }] 48 6 #[] #[{ accessFlags := 26, nameIndex := 61, descriptorIndex := 62, attributes := #[] }, { accessFlags := 26, nameIndex := 65, descriptorIndex := 62, attributes := #[] }, { accessFlags := 24, nameIndex := 430, descriptorIndex := 62, attributes := #[] }, { accessFlags := 4120, nameIndex := 46, descriptorIndex := 47, attributes := #[] }])
  fields := #[{ name := "HI_BYTE_SHIFT", type := .int, accessFlags := 26, slot := 0, constantValue := 0 }, { name := "LO_BYTE_SHIFT", type := .int, accessFlags := 26, slot := 1, constantValue := 0 }, { name := "MAX_LENGTH", type := .int, accessFlags := 24, slot := 2, constantValue := 0 }, { name := "$assertionsDisabled", type := .boolean, accessFlags := 4120, slot := 3, constantValue := 0 }]
  methods := #[k10m0, k10m1, k10m2, k10m3]
  instanceTypes := #[]
  staticTypes := #[.int, .int, .int, .boolean]
  resolved := Array.replicate 635 none
  statics := none }

def pool11 : Array CpInfo := pool [(2, .class_ 4), (1, u "java/lang/Enum"), (0, u "name"), (0, u "Ljava/lang/String;"), (2, u "ordinal"), (0, u "I"), (1, .class_ 14), (1, u "java/lang/Object"), (4, u "hash"), (86, .class_ 108), (1, u "java/lang/Enum$EnumDesc"), (2, .class_ 112), (0, u "java/lang/constant/Constable"), (0, .class_ 114), (0, u "java/lang/Comparable"), (0, .class_ 116), (0, u "java/io/Serializable")] 87

/-- java/lang/Enum -/
def k11 : Class := { plain "java/lang/Enum" (some 0) with
  accessFlags := 1057
  interfaces := #[5, 3, 2]
  cf := some (fileOf pool11 2 #[.nestMembers #[106]] #[] 1057 12 #[111, 113, 115] #[{ accessFlags := 18, nameIndex := 5, descriptorIndex := 6, attributes := #[] }, { accessFlags := 18, nameIndex := 9, descriptorIndex := 10, attributes := #[] }, { accessFlags := 2, nameIndex := 19, descriptorIndex := 10, attributes := #[] }])
  fields := #[{ name := "name", type := (.object "java/lang/String"), accessFlags := 18, slot := 0, constantValue := 0 }, { name := "ordinal", type := .int, accessFlags := 18, slot := 1, constantValue := 0 }, { name := "hash", type := .int, accessFlags := 2, slot := 2, constantValue := 0 }]
  methods := #[]
  instanceTypes := #[(.object "java/lang/String"), .int, .int]
  staticTypes := #[]
  resolved := Array.replicate 204 none
  statics := none }

def pool12 : Array CpInfo := pool [(1, .class_ 2), (0, u "com/example/kwota/kwota/AdjustmentRequest$State"), (2, u "PENDING"), (0, u "Lcom/example/kwota/kwota/AdjustmentRequest$State;"), (2, u "APPROVED"), (2, u "DENIED"), (0, .fieldref 1 14), (0, .nameAndType 15 16), (0, u "$VALUES"), (0, u "[Lcom/example/kwota/kwota/AdjustmentRequest$State;"), (0, .methodref 18 19), (0, .class_ 16), (0, .nameAndType 20 21), (0, u "clone"), (0, u "()Ljava/lang/Object;"), (1, .class_ 25), (1, u "java/lang/Enum"), (6, .fieldref 1 33), (0, .nameAndType 34 35), (0, u "word"), (0, u "Ljava/lang/String;"), (0, .methodref 1 37), (0, .nameAndType 38 39), (0, u "values"), (0, u "()[Lcom/example/kwota/kwota/AdjustmentRequest$State;"), (0, .methodref 41 42), (0, .class_ 43), (0, .nameAndType 44 45), (0, u "java/lang/String"), (0, u "equals"), (0, u "(Ljava/lang/Object;)Z"), (17, u "(Ljava/lang/String;)Lcom/example/kwota/kwota/AdjustmentRequest$State;"), (4, u "named"), (7, .class_ 77), (0, u "com/example/kwota/kwota/AdjustmentRequest")] 2

def k12c0 : Code := { maxStack := 1, maxLocals := 0, code := prog_5_method_1_code, exceptionTable := #[], attributes := #[] }
def k12m0 : Method := { name := "values", desc := "()[Lcom/example/kwota/kwota/AdjustmentRequest$State;", sig := { parameters := [], returnType := some (.array (.object "com/example/kwota/kwota/AdjustmentRequest$State")) }, accessFlags := 9, code := some k12c0 }
def k12c1 : Code := { maxStack := 2, maxLocals := 5, code := prog_5_method_5_code, exceptionTable := #[], attributes := #[] }
def k12m1 : Method := { name := "named", desc := "(Ljava/lang/String;)Lcom/example/kwota/kwota/AdjustmentRequest$State;", sig := { parameters := [(.object "java/lang/String")], returnType := some (.object "com/example/kwota/kwota/AdjustmentRequest$State") }, accessFlags := 9, code := some k12c1 }
/-- com/example/kwota/kwota/AdjustmentRequest$State -/
def k12 : Class := { plain "com/example/kwota/kwota/AdjustmentRequest$State" (some 11) with
  accessFlags := 16433
  interfaces := #[]
  cf := some (fileOf pool12 1 #[.nestHost 76] #[{ accessFlags := 9, nameIndex := 38, descriptorIndex := 39, attributes := #[] }, { accessFlags := 9, nameIndex := 68, descriptorIndex := 63, attributes := #[] }] 16433 23 #[] #[{ accessFlags := 16409, nameIndex := 5, descriptorIndex := 6, attributes := #[] }, { accessFlags := 16409, nameIndex := 9, descriptorIndex := 6, attributes := #[] }, { accessFlags := 16409, nameIndex := 12, descriptorIndex := 6, attributes := #[] }, { accessFlags := 18, nameIndex := 34, descriptorIndex := 35, attributes := #[] }, { accessFlags := 4122, nameIndex := 15, descriptorIndex := 16, attributes := #[] }])
  fields := #[{ name := "PENDING", type := (.object "com/example/kwota/kwota/AdjustmentRequest$State"), accessFlags := 16409, slot := 0, constantValue := 0 }, { name := "APPROVED", type := (.object "com/example/kwota/kwota/AdjustmentRequest$State"), accessFlags := 16409, slot := 1, constantValue := 0 }, { name := "DENIED", type := (.object "com/example/kwota/kwota/AdjustmentRequest$State"), accessFlags := 16409, slot := 2, constantValue := 0 }, { name := "word", type := (.object "java/lang/String"), accessFlags := 18, slot := 3, constantValue := 0 }, { name := "$VALUES", type := (.array (.object "com/example/kwota/kwota/AdjustmentRequest$State")), accessFlags := 4122, slot := 3, constantValue := 0 }]
  methods := #[k12m0, k12m1]
  instanceTypes := #[(.object "java/lang/String"), .int, .int, (.object "java/lang/String")]
  staticTypes := #[(.object "com/example/kwota/kwota/AdjustmentRequest$State"), (.object "com/example/kwota/kwota/AdjustmentRequest$State"), (.object "com/example/kwota/kwota/AdjustmentRequest$State"), (.array (.object "com/example/kwota/kwota/AdjustmentRequest$State"))]
  resolved := Array.replicate 80 none
  statics := some 2 }

def pool13 : Array CpInfo := pool [(1, .class_ 2), (0, u "java/lang/Cloneable"), (0, .class_ 4), (0, u "java/lang/Object")] 2

/-- java/lang/Cloneable -/
def k13 : Class := { plain "java/lang/Cloneable" (some 0) with
  accessFlags := 1537
  interfaces := #[]
  cf := some (fileOf pool13 1 #[] #[] 1537 3 #[] #[])
  fields := #[]
  methods := #[]
  instanceTypes := #[]
  staticTypes := #[]
  resolved := Array.replicate 7 none
  statics := none }

def pool14 : Array CpInfo := pool [(9, u "<init>"), (6, .class_ 18), (1, u "java/lang/Object"), (0, u "()V"), (1, .class_ 23), (1, u "jdk/internal/util/ArraysSupport"), (0, u "LOG2_ARRAY_LONG_INDEX_SCALE"), (0, u "I"), (2, u "U"), (0, u "Ljdk/internal/misc/Unsafe;"), (8, u "BIG_ENDIAN"), (0, u "Z"), (8, u "LOG2_BYTE_BIT_SIZE"), (4, u "LOG2_ARRAY_INT_INDEX_SCALE"), (54, u "JLA"), (0, u "Ljdk/internal/access/JavaLangAccess;"), (11, u "LOG2_ARRAY_BOOLEAN_INDEX_SCALE"), (9, u "LOG2_ARRAY_BYTE_INDEX_SCALE"), (5, u "LOG2_ARRAY_CHAR_INDEX_SCALE"), (5, u "LOG2_ARRAY_SHORT_INDEX_SCALE"), (18, u "LOG2_ARRAY_FLOAT_INDEX_SCALE"), (24, u "LOG2_ARRAY_DOUBLE_INDEX_SCALE"), (89, u "T_BOOLEAN"), (2, u "T_CHAR"), (1, u "T_FLOAT"), (1, u "T_DOUBLE"), (1, u "T_BYTE"), (1, u "T_SHORT"), (1, u "T_INT"), (1, u "T_LONG"), (1, u "SOFT_MAX_ARRAY_LENGTH")] 83

def k14m0 : Method := { name := "<init>", desc := "()V", sig := { parameters := [], returnType := none }, accessFlags := 2, code := none }
/-- jdk/internal/util/ArraysSupport -/
def k14 : Class := { plain "jdk/internal/util/ArraysSupport" (some 0) with
  accessFlags := 33
  interfaces := #[]
  cf := some (fileOf pool14 21 #[] #[{ accessFlags := 2, nameIndex := 9, descriptorIndex := 19, attributes := #[] }] 33 16 #[] #[{ accessFlags := 24, nameIndex := 28, descriptorIndex := 29, attributes := #[] }, { accessFlags := 26, nameIndex := 38, descriptorIndex := 39, attributes := #[] }, { accessFlags := 25, nameIndex := 121, descriptorIndex := 25, attributes := #[] }, { accessFlags := 25, nameIndex := 131, descriptorIndex := 25, attributes := #[] }, { accessFlags := 25, nameIndex := 137, descriptorIndex := 25, attributes := #[] }, { accessFlags := 25, nameIndex := 143, descriptorIndex := 25, attributes := #[] }, { accessFlags := 25, nameIndex := 53, descriptorIndex := 25, attributes := #[] }, { accessFlags := 25, nameIndex := 24, descriptorIndex := 25, attributes := #[] }, { accessFlags := 25, nameIndex := 162, descriptorIndex := 25, attributes := #[] }, { accessFlags := 25, nameIndex := 187, descriptorIndex := 25, attributes := #[] }, { accessFlags := 26, nameIndex := 48, descriptorIndex := 25, attributes := #[] }, { accessFlags := 25, nameIndex := 277, descriptorIndex := 25, attributes := #[] }, { accessFlags := 25, nameIndex := 280, descriptorIndex := 25, attributes := #[] }, { accessFlags := 25, nameIndex := 282, descriptorIndex := 25, attributes := #[] }, { accessFlags := 25, nameIndex := 284, descriptorIndex := 25, attributes := #[] }, { accessFlags := 25, nameIndex := 286, descriptorIndex := 25, attributes := #[] }, { accessFlags := 25, nameIndex := 288, descriptorIndex := 25, attributes := #[] }, { accessFlags := 25, nameIndex := 290, descriptorIndex := 25, attributes := #[] }, { accessFlags := 25, nameIndex := 292, descriptorIndex := 25, attributes := #[] }, { accessFlags := 26, nameIndex := 108, descriptorIndex := 109, attributes := #[] }, { accessFlags := 25, nameIndex := 294, descriptorIndex := 25, attributes := #[] }])
  fields := #[{ name := "U", type := (.object "jdk/internal/misc/Unsafe"), accessFlags := 24, slot := 0, constantValue := 0 }, { name := "BIG_ENDIAN", type := .boolean, accessFlags := 26, slot := 1, constantValue := 0 }, { name := "LOG2_ARRAY_BOOLEAN_INDEX_SCALE", type := .int, accessFlags := 25, slot := 2, constantValue := 0 }, { name := "LOG2_ARRAY_BYTE_INDEX_SCALE", type := .int, accessFlags := 25, slot := 3, constantValue := 0 }, { name := "LOG2_ARRAY_CHAR_INDEX_SCALE", type := .int, accessFlags := 25, slot := 4, constantValue := 0 }, { name := "LOG2_ARRAY_SHORT_INDEX_SCALE", type := .int, accessFlags := 25, slot := 5, constantValue := 0 }, { name := "LOG2_ARRAY_INT_INDEX_SCALE", type := .int, accessFlags := 25, slot := 6, constantValue := 0 }, { name := "LOG2_ARRAY_LONG_INDEX_SCALE", type := .int, accessFlags := 25, slot := 7, constantValue := 0 }, { name := "LOG2_ARRAY_FLOAT_INDEX_SCALE", type := .int, accessFlags := 25, slot := 8, constantValue := 0 }, { name := "LOG2_ARRAY_DOUBLE_INDEX_SCALE", type := .int, accessFlags := 25, slot := 9, constantValue := 0 }, { name := "LOG2_BYTE_BIT_SIZE", type := .int, accessFlags := 26, slot := 10, constantValue := 0 }, { name := "T_BOOLEAN", type := .int, accessFlags := 25, slot := 11, constantValue := 0 }, { name := "T_CHAR", type := .int, accessFlags := 25, slot := 12, constantValue := 0 }, { name := "T_FLOAT", type := .int, accessFlags := 25, slot := 13, constantValue := 0 }, { name := "T_DOUBLE", type := .int, accessFlags := 25, slot := 14, constantValue := 0 }, { name := "T_BYTE", type := .int, accessFlags := 25, slot := 15, constantValue := 0 }, { name := "T_SHORT", type := .int, accessFlags := 25, slot := 16, constantValue := 0 }, { name := "T_INT", type := .int, accessFlags := 25, slot := 17, constantValue := 0 }, { name := "T_LONG", type := .int, accessFlags := 25, slot := 18, constantValue := 0 }, { name := "JLA", type := (.object "jdk/internal/access/JavaLangAccess"), accessFlags := 26, slot := 19, constantValue := 0 }, { name := "SOFT_MAX_ARRAY_LENGTH", type := .int, accessFlags := 25, slot := 20, constantValue := 0 }]
  methods := #[k14m0]
  instanceTypes := #[]
  staticTypes := #[(.object "jdk/internal/misc/Unsafe"), .boolean, .int, .int, .int, .int, .int, .int, .int, .int, .int, .int, .int, .int, .int, .int, .int, .int, .int, (.object "jdk/internal/access/JavaLangAccess"), .int]
  resolved := Array.replicate 378 none
  statics := none }

/-- the primitive byte -/
def k15 : Class := { plain "byte" none with kind := .primitive 'B', accessFlags := 0x411 }
/-- [B -/
def k16 : Class := { plain "[B" (some 0) with kind := .array 15 .byte, interfaces := #[13, 2], accessFlags := 1041 }

/-- the primitive char -/
def k17 : Class := { plain "char" none with kind := .primitive 'C', accessFlags := 0x411 }
/-- [C -/
def k18 : Class := { plain "[C" (some 0) with kind := .array 17 .char, interfaces := #[13, 2], accessFlags := 1041 }

/-- the primitive int -/
def k19 : Class := { plain "int" none with kind := .primitive 'I', accessFlags := 0x411 }
/-- [I -/
def k20 : Class := { plain "[I" (some 0) with kind := .array 19 .int, interfaces := #[13, 2], accessFlags := 1041 }

/-- [Lcom/example/kwota/kwota/AdjustmentRequest$State; -/
def k21 : Class := { plain "[Lcom/example/kwota/kwota/AdjustmentRequest$State;" (some 0) with kind := .array 12 (.object "com/example/kwota/kwota/AdjustmentRequest$State"), interfaces := #[13, 2], accessFlags := 1041 }

def heap : Heap := #[{ cls := 7, slots := #[.long 0, .int 1, .null, .int 0, .null, .int 0, .int 0], vm := .statics 7 },
  { cls := 9, slots := #[.null, .null, .null], vm := .statics 9 },
  { cls := 12, slots := #[.ref 4, .ref 5, .ref 6, .ref 3], vm := .statics 12 },
  { cls := 21, slots := #[.ref 4, .ref 5, .ref 6], vm := .none },
  { cls := 12, slots := #[.null, .int 0, .int 0, .ref 7], vm := .none },
  { cls := 12, slots := #[.null, .int 0, .int 0, .ref 9], vm := .none },
  { cls := 12, slots := #[.null, .int 0, .int 0, .ref 11], vm := .none },
  { cls := 7, slots := #[.ref 8, .int 0, .int 0, .int 0], vm := .none },
  { cls := 16, slots := #[.int 112, .int 101, .int 110, .int 100, .int 105, .int 110, .int 103], vm := .none },
  { cls := 7, slots := #[.ref 10, .int 0, .int 0, .int 0], vm := .none },
  { cls := 16, slots := #[.int 97, .int 112, .int 112, .int 114, .int 111, .int 118, .int 101, .int 100], vm := .none },
  { cls := 7, slots := #[.ref 12, .int 0, .int 0, .int 0], vm := .none },
  { cls := 16, slots := #[.int 100, .int 101, .int 110, .int 105, .int 101, .int 100], vm := .none }]
def classes : Array Class := #[k0, k1, k2, k3, k4, k5, k6, k7, k8, k9, k10, k11, k12, k13, k14, k15, k16, k17, k18, k19, k20, k21]
def interned : List (Array UInt16 × Addr) := []
def slotsUsed : Nat := 62
def theMethod : MethodId := ⟨1, 3⟩
def args0 : Array Value := #[.int 1, .int 3, .int 5, .int 97, .long 9]
def aboutOver (below : List Frame) : State where
  vm := { classes := classes, interned := interned.toArray }
  heap := heap
  slotsUsed := slotsUsed
  threads := #[{ frames := .invoking theMethod args0 :: below }]
def below0 : List Frame := [.native { method := ⟨0, 0⟩, args := #[] }]
def about1 : State := aboutOver below0
def p0 : Program := .bare "" "" ""
def e0 : Env := launch0.env 0 0 0
theorem w_frames : about1.frames = Frame.invoking theMethod args0 :: below0 := rfl
set_option maxRecDepth 65536 in
theorem w_args : argsFit about1.vm theMethod args0 = true := by decide +kernel
set_option maxRecDepth 65536 in
theorem w_heap : heapFits about1 = true := by decide +kernel
set_option maxRecDepth 65536 in
theorem w_runnable : about1.curStatus? = some .runnable := by decide +kernel
set_option maxRecDepth 65536 in
theorem w_alone : about1.alone = true := by decide +kernel
set_option maxRecDepth 65536 in
theorem w_named : about1.methodNamed? x = some theMethod := by decide +kernel
set_option maxRecDepth 65536 in
theorem w_hears : about1.hears theMethod below0 = true := by decide +kernel
set_option maxRecDepth 65536 in
theorem w_ripe : about1.ripe theMethod args0 below0 = true := by decide +kernel
theorem w_running : about1.status = .running := rfl
set_option maxRecDepth 65536 in
theorem w_room : about1.hasRoom e0.platform room_1 = true :=
  launch0.hasRoom_least _ room_1 (by decide +kernel) (by decide +kernel) (by decide +kernel) (by decide +kernel) (by decide +kernel) (by decide +kernel)
theorem allAtoms_all (ts : List Jvm.Cond) (a : Array Jvm.Value) (st : Jvm.State) : (allAtoms ts).before a st = ts.all (fun c => c.before a st) := by
  induction ts with
  | nil => rfl
  | cons c t ih =>
    show (Jvm.Cond.and c (allAtoms t)).before a st = _
    rw [Jvm.Cond.before_and, ih, List.all_cons]
def words1 : List Jvm.Cond := Jvm.Cond.code x code maxLocals ret :: tables_1
/-- a 'code' word, met by the world's own term for the bytes: nothing is compared byte by byte -/
theorem code_word {y : MethodName} {bytes : ByteArray} {mx : Nat} {rt : Option FieldType} {a : Array Value} {s : State} {m : MethodId} {meth : Method} {c : Code} (h1 : s.methodNamed? y = some m) (h2 : s.vm.method? m = some meth) (h3 : meth.code = some c) (h4 : c.code = bytes)
    (h5 : (c.maxLocals == mx && c.exceptionTable.isEmpty && decide (c.maxStack ≤ mostOperands) && decide (meth.sig.returnType = rt) && !meth.locks && decide (parseMethodDescriptor y.desc = some meth.sig)) = true) : (Jvm.Cond.code y bytes mx rt).before a s = true := by
  simp only [Bool.and_eq_true, beq_iff_eq, Bool.not_eq_true', decide_eq_true_eq] at h5
  obtain ⟨⟨⟨⟨⟨g1, g2⟩, g3⟩, g4⟩, g5⟩, g6⟩ := h5
  simp [Cond.before, Cond.holds, Cond.value, h1, h2, h3, h4, g1, g2, g3, g4, g5, g6]
def isCode : Jvm.Cond → Bool
  | .code _ _ _ _ => true
  | _ => false
theorem all_split {L : List Jvm.Cond} {P : Jvm.Cond → Bool} (h1 : L.all (fun c => isCode c || P c) = true) (h2 : ∀ c ∈ L.filter isCode, P c = true) : L.all P = true := by
  refine List.all_eq_true.mpr fun c hc => ?_
  have h := List.all_eq_true.mp h1 c hc
  rcases Bool.eq_false_or_eq_true (isCode c) with hi | hi
  · exact h2 c (List.mem_filter.mpr ⟨hc, hi⟩)
  · simpa [hi] using h
set_option maxRecDepth 65536 in
theorem w_c0 : (Jvm.Cond.code x code maxLocals ret).before args0 about1 = true := code_word (m := ⟨1, 3⟩) (meth := k1m3) (c := k1c3) (by decide +kernel) rfl rfl rfl (by decide +kernel)
set_option maxRecDepth 65536 in
theorem w_c1 : (Jvm.Cond.code ({ cls := "com/example/kwota/kwota/StateNamedPinLaw", name := "at", desc := "(IIJ)C" } : Jvm.MethodName) method_2_code (5 : Nat) (Option.some Jvm.ClassFile.FieldType.char)).before args0 about1 = true := code_word (m := ⟨1, 1⟩) (meth := k1m1) (c := k1c1) (by decide +kernel) rfl rfl rfl (by decide +kernel)
set_option maxRecDepth 65536 in
theorem w_c2 : (Jvm.Cond.code ({ cls := "java/lang/String", name := "length", desc := "()I" } : Jvm.MethodName) jdk_42_method_54_code (1 : Nat) (Option.some Jvm.ClassFile.FieldType.int)).before args0 about1 = true := code_word (m := ⟨7, 2⟩) (meth := k7m2) (c := k7c2) (by decide +kernel) rfl rfl rfl (by decide +kernel)
set_option maxRecDepth 65536 in
theorem w_c3 : (Jvm.Cond.code ({ cls := "java/lang/String", name := "coder", desc := "()B" } : Jvm.MethodName) jdk_42_method_152_code (1 : Nat) (Option.some Jvm.ClassFile.FieldType.byte)).before args0 about1 = true := code_word (m := ⟨7, 6⟩) (meth := k7m6) (c := k7c6) (by decide +kernel) rfl rfl rfl (by decide +kernel)
set_option maxRecDepth 65536 in
theorem w_c4 : (Jvm.Cond.code ({ cls := "java/lang/String", name := "charAt", desc := "(I)C" } : Jvm.MethodName) jdk_42_method_56_code (2 : Nat) (Option.some Jvm.ClassFile.FieldType.char)).before args0 about1 = true := code_word (m := ⟨7, 3⟩) (meth := k7m3) (c := k7c3) (by decide +kernel) rfl rfl rfl (by decide +kernel)
set_option maxRecDepth 65536 in
theorem w_c5 : (Jvm.Cond.code ({ cls := "java/lang/String", name := "isLatin1", desc := "()Z" } : Jvm.MethodName) jdk_42_method_154_code (1 : Nat) (Option.some Jvm.ClassFile.FieldType.boolean)).before args0 about1 = true := code_word (m := ⟨7, 7⟩) (meth := k7m7) (c := k7c7) (by decide +kernel) rfl rfl rfl (by decide +kernel)
set_option maxRecDepth 65536 in
theorem w_c6 : (Jvm.Cond.code ({ cls := "java/lang/StringLatin1", name := "charAt", desc := "([BI)C" } : Jvm.MethodName) jdk_43_method_2_code (2 : Nat) (Option.some Jvm.ClassFile.FieldType.char)).before args0 about1 = true := code_word (m := ⟨8, 1⟩) (meth := k8m1) (c := k8c1) (by decide +kernel) rfl rfl rfl (by decide +kernel)
set_option maxRecDepth 65536 in
theorem w_c7 : (Jvm.Cond.code ({ cls := "java/lang/String", name := "checkIndex", desc := "(II)V" } : Jvm.MethodName) jdk_42_method_155_code (2 : Nat) (Option.none : Option Jvm.ClassFile.FieldType)).before args0 about1 = true := code_word (m := ⟨7, 8⟩) (meth := k7m8) (c := k7c8) (by decide +kernel) rfl rfl rfl (by decide +kernel)
set_option maxRecDepth 65536 in
theorem w_c8 : (Jvm.Cond.code ({ cls := "jdk/internal/util/Preconditions", name := "checkIndex", desc := "(IILjava/util/function/BiFunction;)I" } : Jvm.MethodName) jdk_41_method_11_code (3 : Nat) (Option.some Jvm.ClassFile.FieldType.int)).before args0 about1 = true := code_word (m := ⟨9, 1⟩) (meth := k9m1) (c := k9c1) (by decide +kernel) rfl rfl rfl (by decide +kernel)
set_option maxRecDepth 65536 in
theorem w_c9 : (Jvm.Cond.code ({ cls := "com/example/kwota/kwota/StateNamedPinLaw", name := "str", desc := "([CI)Ljava/lang/String;" } : Jvm.MethodName) method_3_code (3 : Nat) (Option.some (Jvm.ClassFile.FieldType.object "java/lang/String"))).before args0 about1 = true := code_word (m := ⟨1, 2⟩) (meth := k1m2) (c := k1c2) (by decide +kernel) rfl rfl rfl (by decide +kernel)
set_option maxRecDepth 65536 in
theorem w_c10 : (Jvm.Cond.code ({ cls := "java/lang/String", name := "<init>", desc := "([C)V" } : Jvm.MethodName) jdk_42_method_3_code (2 : Nat) (Option.none : Option Jvm.ClassFile.FieldType)).before args0 about1 = true := code_word (m := ⟨7, 1⟩) (meth := k7m1) (c := k7c1) (by decide +kernel) rfl rfl rfl (by decide +kernel)
set_option maxRecDepth 65536 in
theorem w_c11 : (Jvm.Cond.code ({ cls := "java/lang/String", name := "<init>", desc := "([CIILjava/lang/Void;)V" } : Jvm.MethodName) jdk_42_method_149_code (6 : Nat) (Option.none : Option Jvm.ClassFile.FieldType)).before args0 about1 = true := code_word (m := ⟨7, 5⟩) (meth := k7m5) (c := k7c5) (by decide +kernel) rfl rfl rfl (by decide +kernel)
set_option maxRecDepth 65536 in
theorem w_c12 : (Jvm.Cond.code ({ cls := "java/lang/Object", name := "<init>", desc := "()V" } : Jvm.MethodName) object_method_1_code (1 : Nat) (Option.none : Option Jvm.ClassFile.FieldType)).before args0 about1 = true := code_word (m := ⟨0, 0⟩) (meth := k0m0) (c := k0c0) (by decide +kernel) rfl rfl rfl (by decide +kernel)
set_option maxRecDepth 65536 in
theorem w_c13 : (Jvm.Cond.code ({ cls := "java/lang/StringUTF16", name := "compress", desc := "([CII)[B" } : Jvm.MethodName) jdk_52_method_16_code (6 : Nat) (Option.some (Jvm.ClassFile.FieldType.array Jvm.ClassFile.FieldType.byte))).before args0 about1 = true := code_word (m := ⟨10, 2⟩) (meth := k10m2) (c := k10c2) (by decide +kernel) rfl rfl rfl (by decide +kernel)
set_option maxRecDepth 65536 in
theorem w_c14 : (Jvm.Cond.code ({ cls := "java/lang/StringUTF16", name := "compress", desc := "([CI[BII)I" } : Jvm.MethodName) jdk_52_method_21_code (7 : Nat) (Option.some Jvm.ClassFile.FieldType.int)).before args0 about1 = true := code_word (m := ⟨10, 3⟩) (meth := k10m3) (c := k10c3) (by decide +kernel) rfl rfl rfl (by decide +kernel)
set_option maxRecDepth 65536 in
theorem w_c15 : (Jvm.Cond.code ({ cls := "java/lang/StringUTF16", name := "coderFromArrayLen", desc := "([BI)B" } : Jvm.MethodName) jdk_52_method_15_code (2 : Nat) (Option.some Jvm.ClassFile.FieldType.byte)).before args0 about1 = true := code_word (m := ⟨10, 1⟩) (meth := k10m1) (c := k10c1) (by decide +kernel) rfl rfl rfl (by decide +kernel)
set_option maxRecDepth 65536 in
theorem w_c16 : (Jvm.Cond.code ({ cls := "java/lang/String", name := "equals", desc := "(Ljava/lang/Object;)Z" } : Jvm.MethodName) jdk_42_method_66_code (3 : Nat) (Option.some Jvm.ClassFile.FieldType.boolean)).before args0 about1 = true := code_word (m := ⟨7, 4⟩) (meth := k7m4) (c := k7c4) (by decide +kernel) rfl rfl rfl (by decide +kernel)
set_option maxRecDepth 65536 in
theorem w_c17 : (Jvm.Cond.code ({ cls := "java/lang/StringLatin1", name := "equals", desc := "([B[B)Z" } : Jvm.MethodName) jdk_43_method_13_code (3 : Nat) (Option.some Jvm.ClassFile.FieldType.boolean)).before args0 about1 = true := code_word (m := ⟨8, 2⟩) (meth := k8m2) (c := k8c2) (by decide +kernel) rfl rfl rfl (by decide +kernel)
set_option maxRecDepth 65536 in
theorem w_c18 : (Jvm.Cond.code ({ cls := "com/example/kwota/kwota/AdjustmentRequest$State", name := "named", desc := "(Ljava/lang/String;)Lcom/example/kwota/kwota/AdjustmentRequest$State;" } : Jvm.MethodName) prog_5_method_5_code (5 : Nat) (Option.some (Jvm.ClassFile.FieldType.object "com/example/kwota/kwota/AdjustmentRequest$State"))).before args0 about1 = true := code_word (m := ⟨12, 1⟩) (meth := k12m1) (c := k12c1) (by decide +kernel) rfl rfl rfl (by decide +kernel)
set_option maxRecDepth 65536 in
theorem w_c19 : (Jvm.Cond.code ({ cls := "com/example/kwota/kwota/AdjustmentRequest$State", name := "values", desc := "()[Lcom/example/kwota/kwota/AdjustmentRequest$State;" } : Jvm.MethodName) prog_5_method_1_code (0 : Nat) (Option.some (Jvm.ClassFile.FieldType.array (Jvm.ClassFile.FieldType.object "com/example/kwota/kwota/AdjustmentRequest$State")))).before args0 about1 = true := code_word (m := ⟨12, 0⟩) (meth := k12m0) (c := k12c0) (by decide +kernel) rfl rfl rfl (by decide +kernel)
def codes1 : List Jvm.Cond := [Jvm.Cond.code x code maxLocals ret, Jvm.Cond.code ({ cls := "com/example/kwota/kwota/StateNamedPinLaw", name := "at", desc := "(IIJ)C" } : Jvm.MethodName) method_2_code (5 : Nat) (Option.some Jvm.ClassFile.FieldType.char), Jvm.Cond.code ({ cls := "java/lang/String", name := "length", desc := "()I" } : Jvm.MethodName) jdk_42_method_54_code (1 : Nat) (Option.some Jvm.ClassFile.FieldType.int), Jvm.Cond.code ({ cls := "java/lang/String", name := "coder", desc := "()B" } : Jvm.MethodName) jdk_42_method_152_code (1 : Nat) (Option.some Jvm.ClassFile.FieldType.byte), Jvm.Cond.code ({ cls := "java/lang/String", name := "charAt", desc := "(I)C" } : Jvm.MethodName) jdk_42_method_56_code (2 : Nat) (Option.some Jvm.ClassFile.FieldType.char), Jvm.Cond.code ({ cls := "java/lang/String", name := "isLatin1", desc := "()Z" } : Jvm.MethodName) jdk_42_method_154_code (1 : Nat) (Option.some Jvm.ClassFile.FieldType.boolean), Jvm.Cond.code ({ cls := "java/lang/StringLatin1", name := "charAt", desc := "([BI)C" } : Jvm.MethodName) jdk_43_method_2_code (2 : Nat) (Option.some Jvm.ClassFile.FieldType.char), Jvm.Cond.code ({ cls := "java/lang/String", name := "checkIndex", desc := "(II)V" } : Jvm.MethodName) jdk_42_method_155_code (2 : Nat) (Option.none : Option Jvm.ClassFile.FieldType), Jvm.Cond.code ({ cls := "jdk/internal/util/Preconditions", name := "checkIndex", desc := "(IILjava/util/function/BiFunction;)I" } : Jvm.MethodName) jdk_41_method_11_code (3 : Nat) (Option.some Jvm.ClassFile.FieldType.int), Jvm.Cond.code ({ cls := "com/example/kwota/kwota/StateNamedPinLaw", name := "str", desc := "([CI)Ljava/lang/String;" } : Jvm.MethodName) method_3_code (3 : Nat) (Option.some (Jvm.ClassFile.FieldType.object "java/lang/String")), Jvm.Cond.code ({ cls := "java/lang/String", name := "<init>", desc := "([C)V" } : Jvm.MethodName) jdk_42_method_3_code (2 : Nat) (Option.none : Option Jvm.ClassFile.FieldType), Jvm.Cond.code ({ cls := "java/lang/String", name := "<init>", desc := "([CIILjava/lang/Void;)V" } : Jvm.MethodName) jdk_42_method_149_code (6 : Nat) (Option.none : Option Jvm.ClassFile.FieldType), Jvm.Cond.code ({ cls := "java/lang/Object", name := "<init>", desc := "()V" } : Jvm.MethodName) object_method_1_code (1 : Nat) (Option.none : Option Jvm.ClassFile.FieldType), Jvm.Cond.code ({ cls := "java/lang/StringUTF16", name := "compress", desc := "([CII)[B" } : Jvm.MethodName) jdk_52_method_16_code (6 : Nat) (Option.some (Jvm.ClassFile.FieldType.array Jvm.ClassFile.FieldType.byte)), Jvm.Cond.code ({ cls := "java/lang/StringUTF16", name := "compress", desc := "([CI[BII)I" } : Jvm.MethodName) jdk_52_method_21_code (7 : Nat) (Option.some Jvm.ClassFile.FieldType.int), Jvm.Cond.code ({ cls := "java/lang/StringUTF16", name := "coderFromArrayLen", desc := "([BI)B" } : Jvm.MethodName) jdk_52_method_15_code (2 : Nat) (Option.some Jvm.ClassFile.FieldType.byte), Jvm.Cond.code ({ cls := "java/lang/String", name := "equals", desc := "(Ljava/lang/Object;)Z" } : Jvm.MethodName) jdk_42_method_66_code (3 : Nat) (Option.some Jvm.ClassFile.FieldType.boolean), Jvm.Cond.code ({ cls := "java/lang/StringLatin1", name := "equals", desc := "([B[B)Z" } : Jvm.MethodName) jdk_43_method_13_code (3 : Nat) (Option.some Jvm.ClassFile.FieldType.boolean), Jvm.Cond.code ({ cls := "com/example/kwota/kwota/AdjustmentRequest$State", name := "named", desc := "(Ljava/lang/String;)Lcom/example/kwota/kwota/AdjustmentRequest$State;" } : Jvm.MethodName) prog_5_method_5_code (5 : Nat) (Option.some (Jvm.ClassFile.FieldType.object "com/example/kwota/kwota/AdjustmentRequest$State")), Jvm.Cond.code ({ cls := "com/example/kwota/kwota/AdjustmentRequest$State", name := "values", desc := "()[Lcom/example/kwota/kwota/AdjustmentRequest$State;" } : Jvm.MethodName) prog_5_method_1_code (0 : Nat) (Option.some (Jvm.ClassFile.FieldType.array (Jvm.ClassFile.FieldType.object "com/example/kwota/kwota/AdjustmentRequest$State")))]
set_option maxRecDepth 65536 in
theorem codes_eq : words1.filter isCode = codes1 := rfl
theorem w_codes : ∀ c ∈ words1.filter isCode, c.before args0 about1 = true := by
  rw [codes_eq]
  intro c hc
  simp only [codes1, List.mem_cons, List.not_mem_nil, or_false] at hc
  rcases hc with rfl | rfl | rfl | rfl | rfl | rfl | rfl | rfl | rfl | rfl | rfl | rfl | rfl | rfl | rfl | rfl | rfl | rfl | rfl | rfl
  · exact w_c0
  · exact w_c1
  · exact w_c2
  · exact w_c3
  · exact w_c4
  · exact w_c5
  · exact w_c6
  · exact w_c7
  · exact w_c8
  · exact w_c9
  · exact w_c10
  · exact w_c11
  · exact w_c12
  · exact w_c13
  · exact w_c14
  · exact w_c15
  · exact w_c16
  · exact w_c17
  · exact w_c18
  · exact w_c19
set_option maxRecDepth 65536 in
theorem w_t1 : (words1.take 24).all (fun c => isCode c || c.before args0 about1) = true := by decide +kernel
set_option maxRecDepth 65536 in
theorem w_t2 : ((words1.drop 24).take 24).all (fun c => isCode c || c.before args0 about1) = true := by decide +kernel
set_option maxRecDepth 65536 in
theorem w_t3 : (((words1.drop 24).drop 24).take 24).all (fun c => isCode c || c.before args0 about1) = true := by decide +kernel
set_option maxRecDepth 65536 in
theorem w_t4 : ((((words1.drop 24).drop 24).drop 24).take 24).all (fun c => isCode c || c.before args0 about1) = true := by decide +kernel
set_option maxRecDepth 65536 in
theorem w_t5 : ((((words1.drop 24).drop 24).drop 24).drop 24).all (fun c => isCode c || c.before args0 about1) = true := by decide +kernel
theorem w_tables : (allAtoms (Jvm.Cond.code x code maxLocals ret :: tables_1)).before args0 about1 = true := by
  rw [allAtoms_all]
  show words1.all (fun c => c.before args0 about1) = true
  refine all_split ?_ w_codes
  rw [← List.take_append_drop 24 words1, List.all_append, w_t1, ← List.take_append_drop 24 (words1.drop 24), List.all_append, w_t2, ← List.take_append_drop 24 ((words1.drop 24).drop 24), List.all_append, w_t3, ← List.take_append_drop 24 (((words1.drop 24).drop 24).drop 24), List.all_append, w_t4, w_t5]
  rfl
set_option maxRecDepth 65536 in
theorem w_rest : rest_1_c.before args0 about1 = true := by decide +kernel
set_option maxRecDepth 65536 in
theorem w_case : (Jvm.Cond.and given_1 narrow_1).before args0 about1 = true := by decide +kernel
set_option maxRecDepth 65536 in
theorem w_consts : constsHeld consts_1 about1 := Jvm.Lit.constsHeldB_iff.mp (by decide +kernel)
theorem w_applies : (headSpec (Jvm.Cond.code x code maxLocals ret :: tables_1) room_1).applies x e0.platform about1 = true :=
  (Spec.applies_iff w_frames).mpr ⟨w_running, w_runnable, w_alone, w_named, w_hears, w_ripe, w_room, w_tables⟩
theorem atStart : AtStart classFile x code maxLocals ret World_1 tables_1 room_1 Calls_1 rest_1 Pre_1 launch0 p0 e0 about1 theMethod args0 below0 :=
  ⟨lists_1, trivial, launch0.admits_env _ _ _, launch0.least_env, fairChoices_fair.cas, fairChoices_fair.clock, w_frames, w_args, w_heap, w_applies, ⟨w_consts, trivial⟩, w_rest, w_case⟩
end start1
theorem witness_1 : WitnessClaimed_1 := ⟨start1.p0, start1.e0, start1.about1, start1.theMethod, start1.args0, start1.below0, start1.atStart⟩
end Jvm.Pilot.@@N@@
