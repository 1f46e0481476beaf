import JvmDerived
import JvmDerived.Pilot.@@N@@Statement
import JvmDerived.Pilot.@@N@@Code
set_option linter.unusedVariables false
set_option linter.unusedSimpArgs false
/- laws to paste: Road.backV (cut by pick.py; bodies as the Statement names them) -/
namespace Jvm.Pilot.@@N@@
namespace StrChars
open Jvm Sem ClassFile Op Lib Jvm.Stand Jvm.Free.XT Jvm.Free.ALB Jvm.Free.JM Jvm.Free
open Jvm.Lib.Cold (StaticIs)
/-- a char array whose places are chars -/
def Ch (a : Addr) (A : Cell) (U : State) : Prop := Arr .char a A U ∧ Typed .char A
theorem Ch.mv {a : Addr} {A : Cell} {U U' : State} (h : Ch a A U) (hal : U.vm.Alike U'.vm) (hh : U'.heap = U.heap) : Ch a A U' := ⟨h.1.mv hal hh, h.2⟩
theorem Ch.keep {a : Addr} {A : Cell} {U U' : State} (h : Ch a A U) (hal : U.vm.Alike U'.vm) (hk : U'.heap[a]? = some A) : Ch a A U' := ⟨h.1.keep hal hk, h.2⟩
/-- what place i of a char[]'s cell holds -/
def cv (A : Cell) (i : Nat) : Int32 := match A.slots[i]? with | some (.int x) => x | _ => 0
theorem Ch.get {a : Addr} {A : Cell} {U : State} (h : Ch a A U) {i : Nat} (hi : i < A.slots.size) : A.slots[i]? = some (.int (cv A i)) := by
  have e := Array.getElem?_eq_getElem hi
  have f := h.2 i _ e
  unfold cv; rw [e]
  generalize A.slots[i] = v at f
  cases v <;> simp [fits] at f ⊢
/-- the byte that i2b leaves of a char -/
def lo8 (x : Int32) : Int32 := x.toInt8.toInt32
theorem fits_lo8 (y : Int32) : fits .byte (.int (lo8 y)) = true := by
  have h1 := y.toInt8.le_toInt
  have h2 := y.toInt8.toInt_lt
  simp only [lo8, fits, Bool.and_eq_true, decide_eq_true_eq, Int32.le_iff_toInt_le, Int8.toInt_toInt32, show (-128 : Int32).toInt = -128 from by decide, show (127 : Int32).toInt = 127 from by decide]
  omega
/-- A' is A but that each place j of lo .. hi - 1 holds f j -/
def Laid (A A' : Cell) (lo hi : Nat) (f : Nat → Value) : Prop := A'.cls = A.cls ∧ A'.vm = A.vm ∧ A'.slots.size = A.slots.size ∧ ∀ i, A'.slots[i]? = if lo ≤ i ∧ i < hi then some (f i) else A.slots[i]?
theorem Laid.zero (A : Cell) (lo : Nat) (f : Nat → Value) : Laid A A lo (lo + 0) f := ⟨rfl, rfl, rfl, fun i => by rw [if_neg (by omega)]⟩
theorem Laid.step {A Ak : Cell} {lo k : Nat} {f : Nat → Value} {v : Value} (h : Laid A Ak lo k f) (hlo : lo ≤ k) (hk : k < Ak.slots.size) (hv : v = f k) : Laid A (Ak.setSlot k v) lo (k + 1) f := by
  refine ⟨h.1, h.2.1, by simpa [Cell.setSlot] using h.2.2.1, fun i => ?_⟩
  by_cases e : k = i
  · subst e; rw [Cell.slots_setSlot_self v hk, if_pos (by omega), hv]
  · rw [Cell.slots_setSlot_ne v e, h.2.2.2 i]
    by_cases q : lo ≤ i ∧ i < k
    · rw [if_pos q, if_pos (by omega)]
    · rw [if_neg q, if_neg (by omega)]
def U16 : String := "java/lang/StringUTF16"
namespace Cmp5
def yN : MethodName := ⟨"java/lang/StringUTF16", "compress", "([CI[BII)I"⟩
abbrev yB : ByteArray := jdk_52_method_21_code
theorem d0 : decode yB 0 = .ok (.iconst 0, 1) := by decide +kernel
theorem d1 : decode yB 1 = .ok (.istore 5, 2) := by decide +kernel
theorem d3 : decode yB 3 = .ok (.iload 5, 2) := by decide +kernel
theorem d5 : decode yB 5 = .ok (.iload 4, 2) := by decide +kernel
theorem d7 : decode yB 7 = .ok (.if_icmp (.ge) 37, 3) := by decide +kernel
theorem d10 : decode yB 10 = .ok (.aload_n 0, 1) := by decide +kernel
theorem d11 : decode yB 11 = .ok (.iload_n 1, 1) := by decide +kernel
theorem d12 : decode yB 12 = .ok (.caload, 1) := by decide +kernel
theorem d13 : decode yB 13 = .ok (.istore 6, 2) := by decide +kernel
theorem d15 : decode yB 15 = .ok (.iload 6, 2) := by decide +kernel
theorem d17 : decode yB 17 = .ok (.sipush 255, 3) := by decide +kernel
theorem d20 : decode yB 20 = .ok (.if_icmp (.le) 6, 3) := by decide +kernel
theorem d26 : decode yB 26 = .ok (.aload_n 2, 1) := by decide +kernel
theorem d27 : decode yB 27 = .ok (.iload_n 3, 1) := by decide +kernel
theorem d28 : decode yB 28 = .ok (.iload 6, 2) := by decide +kernel
theorem d30 : decode yB 30 = .ok (.i2b, 1) := by decide +kernel
theorem d31 : decode yB 31 = .ok (.bastore, 1) := by decide +kernel
theorem d32 : decode yB 32 = .ok (.iinc 1 1, 3) := by decide +kernel
theorem d35 : decode yB 35 = .ok (.iinc 3 1, 3) := by decide +kernel
theorem d38 : decode yB 38 = .ok (.iinc 5 1, 3) := by decide +kernel
theorem d41 : decode yB 41 = .ok (.goto (-38), 3) := by decide +kernel
theorem d44 : decode yB 44 = .ok (.iload 4, 2) := by decide +kernel
theorem d46 : decode yB 46 = .ok (.ireturn, 1) := by decide +kernel
def site : List Cond := []
def tab : Cond := tabOf yN yB 7 (some .int) site
def P (b : Addr) (A : Cell) (d : Addr) (B : Cell) (o q len : Nat) (args : Array Value) (s : State) : Prop := args = #[.ref b, .int (Int32.ofNat o), .ref d, .int (Int32.ofNat q), .int (Int32.ofNat len)] ∧ Ch b A s ∧ Arr .byte d B s ∧ b ≠ d ∧ o + len ≤ A.slots.size ∧ q + len ≤ B.slots.size ∧ ∀ i, i < len → ¬ 255 < cv A (o + i)
def E (b : Addr) (A : Cell) (d : Addr) (B : Cell) (o q len : Nat) (r : Option Value) (s u : State) : Prop := r = some (.int (Int32.ofNat len)) ∧ ∃ B', Put d B' s u ∧ Laid B B' q (q + len) (fun j => Value.int (lo8 (cv A (o + (j - q)))))
/-- no char of the range above 255: len; the places written hold each char's low byte -/
theorem law (l : Launch) (b : Addr) (A : Cell) (d : Addr) (B : Cell) (o q len : Nat) : Law l yN 5 5 0 0 yB 7 (some .int) site (P b A d B o q len) (E b A d B o q len) (copyLocs d q len) 0 0 := by
  refine Law.of_walk (plainFor_of_name (by decide +kernel)) (by decide +kernel) (by decide +kernel) (by decide) (fun _ _ h => by rw [h.1]; rfl) (fun _ U U' hal hh h => ⟨h.1, h.2.1.mv hal hh, h.2.2.1.mv hal hh, h.2.2.2⟩) (fun r U U' V V' h1 hal h2 h => ⟨h.1, h.2.elim fun B' q => ⟨B', q.1.mv h1 h2, q.2⟩⟩) ?_
  intro p e s m args below meth c s₁ X0 hexec hbytes hml hret hlk hnm hown hh0 W hP
  obtain ⟨rfl, hA, hB, hne, l1, l2, hp⟩ := hP
  have c1 : Steps p.tables e below (s₁.setTop (entryFrame m #[.ref b, .int (Int32.ofNat o), .ref d, .int (Int32.ofNat q), .int (Int32.ofNat len)] 7)) (s₁.setTop (mkF m 0 #[.val (.ref b), .val (.int (Int32.ofNat o)), .val (.ref d), .val (.int (Int32.ofNat q)), .val (.int (Int32.ofNat len)), .unset, .unset] [])) := entry rfl
  have hA0 := hA.1.mv X0.warmed.alike hh0
  have hB0 := hB.mv X0.warmed.alike hh0
  have a31 := hA.1.2.2.2
  have c2 : Steps p.tables e below (s₁.setTop (entryFrame m #[.ref b, .int (Int32.ofNat o), .ref d, .int (Int32.ofNat q), .int (Int32.ofNat len)] 7)) (s₁.setTop (mkF m 3 #[.val (.ref b), .val (.int (Int32.ofNat o)), .val (.ref d), .val (.int (Int32.ofNat q)), .val (.int (Int32.ofNat len)), .val (.int 0), .unset] [])) := c1.trans (by
    refine iconstV X0.here hexec rfl 0 (hb hbytes d0) (by decide) ?_
    refine XS.istore X0.here hexec rfl (hb hbytes d1) rfl rfl ?_
    exact Steps.refl _)
  have loop : ∀ (r i : Nat), i + r = len → ∀ (z : Slot), (z = .unset ∨ ∃ w, z = .val w ∧ w.category = 1) → ∀ (Tl : State) (Bk : Cell), Stand p l e { frames := 0, locals := 0, cells := 0, slots := 0 } s m #[.ref b, .int (Int32.ofNat o), .ref d, .int (Int32.ofNat q), .int (Int32.ofNat len)] below meth c Tl ([] ++ copyLocs d q i) 0 0 → Put d Bk s₁ Tl → Laid B Bk q (q + i) (fun j => Value.int (lo8 (cv A (o + (j - q))))) →
      Steps p.tables e below (s₁.setTop (entryFrame m #[.ref b, .int (Int32.ofNat o), .ref d, .int (Int32.ofNat q), .int (Int32.ofNat len)] 7)) (Tl.setTop (mkF m 3 #[.val (.ref b), .val (.int (Int32.ofNat (o + i))), .val (.ref d), .val (.int (Int32.ofNat (q + i))), .val (.int (Int32.ofNat len)), .val (.int (Int32.ofNat i)), z] [])) → ∃ (T' : State) (B' : Cell) (z' : Slot), Stand p l e { frames := 0, locals := 0, cells := 0, slots := 0 } s m #[.ref b, .int (Int32.ofNat o), .ref d, .int (Int32.ofNat q), .int (Int32.ofNat len)] below meth c T' ([] ++ copyLocs d q len) 0 0 ∧ Put d B' s₁ T' ∧ Laid B B' q (q + len) (fun j => Value.int (lo8 (cv A (o + (j - q))))) ∧
      Steps p.tables e below (s₁.setTop (entryFrame m #[.ref b, .int (Int32.ofNat o), .ref d, .int (Int32.ofNat q), .int (Int32.ofNat len)] 7)) (T'.setTop (mkF m 3 #[.val (.ref b), .val (.int (Int32.ofNat (o + len))), .val (.ref d), .val (.int (Int32.ofNat (q + len))), .val (.int (Int32.ofNat len)), .val (.int (Int32.ofNat len)), z'] [])) := by
    intro r
    induction r with
    | zero =>
      intro i hi z hz Tl Bk Xl pl fl cl
      have hil : i = len := by omega
      rw [hil] at Xl fl cl
      exact ⟨Tl, Bk, z, Xl, pl, fl, cl⟩
    | succ r ih =>
      intro i hi z hz Tl Bk Xl pl fl cl
      have all := X0.warmed.alike.symm.trans Xl.warmed.alike
      have hAl := hA0.keep all (pl.other hne hA0.1)
      have hBk := hB0.like all pl.1 fl.1 fl.2.1 fl.2.2.1
      have hlt : q + i < Bk.slots.size := by rw [fl.2.2.1]; omega
      have c3 : Steps p.tables e below (s₁.setTop (entryFrame m #[.ref b, .int (Int32.ofNat o), .ref d, .int (Int32.ofNat q), .int (Int32.ofNat len)] 7)) (Tl.setTop (mkF m 12 #[.val (.ref b), .val (.int (Int32.ofNat (o + i))), .val (.ref d), .val (.int (Int32.ofNat (q + i))), .val (.int (Int32.ofNat len)), .val (.int (Int32.ofNat i)), z] [.int (Int32.ofNat (o + i)), .ref b])) := cl.trans (by
        refine XS.iload Xl.here hexec rfl (hb hbytes d3) rfl ?_
        refine XS.iload Xl.here hexec rfl (hb hbytes d5) rfl ?_
        refine XS.icmpNo Xl.here hexec rfl (hb hbytes d7) rfl (ii_ge_f (lt32 (by omega) (by omega))) ?_
        refine XS.aloadN Xl.here hexec rfl (hb hbytes d10) rfl rfl ?_
        refine XS.iloadN Xl.here hexec rfl (hb hbytes d11) rfl ?_
        exact Steps.refl _)
      have c4 : Steps p.tables e below (s₁.setTop (entryFrame m #[.ref b, .int (Int32.ofNat o), .ref d, .int (Int32.ofNat q), .int (Int32.ofNat len)] 7)) (Tl.setTop (mkF m 13 #[.val (.ref b), .val (.int (Int32.ofNat (o + i))), .val (.ref d), .val (.int (Int32.ofNat (q + i))), .val (.int (Int32.ofNat len)), .val (.int (Int32.ofNat i)), z] [.int (cv A (o + i))])) := c3.trans (by
        refine Xl.aget hexec hAl rfl (hA.get (i := o + i) (by omega)) rfl rfl (hb hbytes d12) ?_
        exact Steps.refl _)
      have c5 : Steps p.tables e below (s₁.setTop (entryFrame m #[.ref b, .int (Int32.ofNat o), .ref d, .int (Int32.ofNat q), .int (Int32.ofNat len)] 7)) (Tl.setTop (mkF m 15 #[.val (.ref b), .val (.int (Int32.ofNat (o + i))), .val (.ref d), .val (.int (Int32.ofNat (q + i))), .val (.int (Int32.ofNat len)), .val (.int (Int32.ofNat i)), .val (.int (cv A (o + i)))] [])) := c4.trans (by
        refine XS.istoreS Xl.here hexec rfl (hb hbytes d13) rfl rfl hz ?_
        exact Steps.refl _)
      have c6 : Steps p.tables e below (s₁.setTop (entryFrame m #[.ref b, .int (Int32.ofNat o), .ref d, .int (Int32.ofNat q), .int (Int32.ofNat len)] 7)) (Tl.setTop (mkF m 31 #[.val (.ref b), .val (.int (Int32.ofNat (o + i))), .val (.ref d), .val (.int (Int32.ofNat (q + i))), .val (.int (Int32.ofNat len)), .val (.int (Int32.ofNat i)), .val (.int (cv A (o + i)))] [.int (lo8 (cv A (o + i))), .int (Int32.ofNat (q + i)), .ref d])) := c5.trans (by
        refine XS.iload Xl.here hexec rfl (hb hbytes d15) rfl ?_
        refine sipushV Xl.here hexec rfl 255 (hb hbytes d17) (by decide) ?_
        refine XS.icmpYes Xl.here hexec rfl (pc0 := 20) rfl (hb hbytes d20) rfl (ii_le_t (hp i (by omega))) (by decide) rfl ?_
        refine XS.aloadN Xl.here hexec rfl (hb hbytes d26) rfl rfl ?_
        refine XS.iloadN Xl.here hexec rfl (hb hbytes d27) rfl ?_
        refine XS.iload Xl.here hexec rfl (hb hbytes d28) rfl ?_
        refine i2b Xl.here hexec rfl (hb hbytes d30) rfl ?_
        exact Steps.refl _)
      obtain ⟨T7, X7, p7, st7⟩ := Xl.aput hexec hBk rfl hlt rfl (fits_lo8 (cv A (o + i))) (g := (mkF m 31 #[.val (.ref b), .val (.int (Int32.ofNat (o + i))), .val (.ref d), .val (.int (Int32.ofNat (q + i))), .val (.int (Int32.ofNat len)), .val (.int (Int32.ofNat i)), .val (.int (cv A (o + i)))] [.int (lo8 (cv A (o + i))), .int (Int32.ofNat (q + i)), .ref d])) rfl (rest := []) rfl (hb hbytes d31)
      have c8 : Steps p.tables e below (s₁.setTop (entryFrame m #[.ref b, .int (Int32.ofNat o), .ref d, .int (Int32.ofNat q), .int (Int32.ofNat len)] 7)) (T7.setTop (mkF m 32 #[.val (.ref b), .val (.int (Int32.ofNat (o + i))), .val (.ref d), .val (.int (Int32.ofNat (q + i))), .val (.int (Int32.ofNat len)), .val (.int (Int32.ofNat i)), .val (.int (cv A (o + i)))] [])) := c6.trans (st7 _ (Steps.refl _))
      have c9 : Steps p.tables e below (s₁.setTop (entryFrame m #[.ref b, .int (Int32.ofNat o), .ref d, .int (Int32.ofNat q), .int (Int32.ofNat len)] 7)) (T7.setTop (mkF m 3 #[.val (.ref b), .val (.int (Int32.ofNat (o + i) + 1)), .val (.ref d), .val (.int (Int32.ofNat (q + i) + 1)), .val (.int (Int32.ofNat len)), .val (.int (Int32.ofNat i + 1)), .val (.int (cv A (o + i)))] [])) := c8.trans (by
        refine iincV X7.here hexec rfl 1 (hb hbytes d32) (by decide) rfl rfl ?_
        refine iincV X7.here hexec rfl 1 (hb hbytes d35) (by decide) rfl rfl ?_
        refine iincV X7.here hexec rfl 1 (hb hbytes d38) (by decide) rfl rfl ?_
        refine XS.goto X7.here hexec rfl (pc0 := 41) rfl (hb hbytes d41) (by decide) rfl ?_
        exact Steps.refl _)
      have c10 : Steps p.tables e below (s₁.setTop (entryFrame m #[.ref b, .int (Int32.ofNat o), .ref d, .int (Int32.ofNat q), .int (Int32.ofNat len)] 7)) (T7.setTop (mkF m 3 #[.val (.ref b), .val (.int (Int32.ofNat (o + (i + 1)))), .val (.ref d), .val (.int (Int32.ofNat (q + (i + 1)))), .val (.int (Int32.ofNat len)), .val (.int (Int32.ofNat (i + 1))), .val (.int (cv A (o + i)))] [])) := by
        have := c9
        rw [succ32, succ32, succ32] at this
        exact this
      exact ih (i + 1) (by omega) _ (Or.inr ⟨_, rfl, rfl⟩) T7 _ (by rw [copyLocs_step, ← List.append_assoc]; exact X7) (pl.trans p7) (fl.step (by omega) hlt (by simp)) c10
  obtain ⟨T9, B9, z9, X9, p9, f9, g9⟩ := loop len 0 (by omega) .unset (Or.inl rfl) s₁ B (by simpa [copyLocs] using X0) ⟨hB0.1, fun _ _ => rfl, rfl⟩ (Laid.zero _ _ _) c2
  have c11 : Steps p.tables e below (s₁.setTop (entryFrame m #[.ref b, .int (Int32.ofNat o), .ref d, .int (Int32.ofNat q), .int (Int32.ofNat len)] 7)) (T9.setTop (mkF m 46 #[.val (.ref b), .val (.int (Int32.ofNat (o + len))), .val (.ref d), .val (.int (Int32.ofNat (q + len))), .val (.int (Int32.ofNat len)), .val (.int (Int32.ofNat len)), z9] [.int (Int32.ofNat len)])) := g9.trans (by
    refine XS.iload X9.here hexec rfl (hb hbytes d3) rfl ?_
    refine XS.iload X9.here hexec rfl (hb hbytes d5) rfl ?_
    refine XS.icmpYes X9.here hexec rfl (pc0 := 7) rfl (hb hbytes d7) rfl (ii_ge_t (nlt32 (by omega) (Nat.le_refl _))) (by decide) rfl ?_
    refine XS.iload X9.here hexec rfl (hb hbytes d44) rfl ?_
    exact Steps.refl _)
  exact ⟨T9, some (.int (Int32.ofNat len)), _, _, _, X9, by simp, rfl, rfl, (fun h => by cases h), ⟨rfl, B9, p9.from hh0, f9⟩, fun fs hl => c11.trans (X9.ireturnOut hexec hret rfl (Or.inl rfl) (hb hbytes d46) hl)⟩
end Cmp5
namespace Cmp3
def yN : MethodName := ⟨"java/lang/StringUTF16", "compress", "([CII)[B"⟩
abbrev yB : ByteArray := jdk_52_method_16_code
theorem d0 : decode yB 0 = .ok (.iload_n 2, 1) := by decide +kernel
theorem d1 : decode yB 1 = .ok (.newarray .byte, 2) := by decide +kernel
theorem d3 : decode yB 3 = .ok (.astore_n 3, 1) := by decide +kernel
theorem d4 : decode yB 4 = .ok (.aload_n 0, 1) := by decide +kernel
theorem d5 : decode yB 5 = .ok (.iload_n 1, 1) := by decide +kernel
theorem d6 : decode yB 6 = .ok (.aload_n 3, 1) := by decide +kernel
theorem d7 : decode yB 7 = .ok (.iconst 0, 1) := by decide +kernel
theorem d8 : decode yB 8 = .ok (.iload_n 2, 1) := by decide +kernel
theorem d9 : decode yB 9 = .ok (.invokestatic 115, 3) := by decide +kernel
theorem d12 : decode yB 12 = .ok (.istore 4, 2) := by decide +kernel
theorem d14 : decode yB 14 = .ok (.iload 4, 2) := by decide +kernel
theorem d16 : decode yB 16 = .ok (.iload_n 2, 1) := by decide +kernel
theorem d17 : decode yB 17 = .ok (.if_icmp (.eq) 40, 3) := by decide +kernel
theorem d57 : decode yB 57 = .ok (.aload_n 3, 1) := by decide +kernel
theorem d58 : decode yB 58 = .ok (.areturn, 1) := by decide +kernel
def site : List Cond := [.arrayClass .byte, Cmp5.tab] ++ staticW U16 115 Cmp5.yN
def tab : Cond := tabOf yN yB 6 (some (.array .byte)) site
def P (b : Addr) (A : Cell) (o len : Nat) (args : Array Value) (s : State) : Prop := args = #[.ref b, .int (Int32.ofNat o), .int (Int32.ofNat len)] ∧ Ch b A s ∧ o + len ≤ A.slots.size ∧ len ≤ 536870912 ∧ ∀ i, i < len → ¬ 255 < cv A (o + i)
def E (b : Addr) (A : Cell) (o len : Nat) (r : Option Value) (s u : State) : Prop := NewArr .byte "[B" len (fun j => .int (lo8 (cv A (o + j)))) r s u ∧ u.heap.size = s.heap.size + 1
/-- no char of the range above 255: a new byte[] of their low bytes -/
theorem law (l : Launch) (b : Addr) (A : Cell) (o len : Nat) : Law l yN 3 3 1 18 yB 6 (some (.array .byte)) site (P b A o len) (E b A o len) [] 1 len := by
  refine Law.of_walk (plainFor_of_name (by decide +kernel)) (by decide +kernel) (by decide +kernel) (by decide) (fun _ _ h => by rw [h.1]; rfl) (fun _ U U' hal hh h => ⟨h.1, h.2.1.mv hal hh, h.2.2⟩) (fun r U U' V V' h1 hal h2 h => ⟨NewArr.mv r U U' V V' h1 hal h2 h.1, by rw [h1, h2]; exact h.2⟩) ?_
  intro p e s m args below meth c s₁ X0 hexec hbytes hml hret hlk hnm hown hh0 W hP
  obtain ⟨rfl, hA, l1, l2, hp⟩ := hP
  have a31 := hA.1.2.2.2
  have c1 : Steps p.tables e below (s₁.setTop (entryFrame m #[.ref b, .int (Int32.ofNat o), .int (Int32.ofNat len)] 6)) (s₁.setTop (mkF m 0 #[.val (.ref b), .val (.int (Int32.ofNat o)), .val (.int (Int32.ofNat len)), .unset, .unset, .unset] [])) := entry rfl
  have c2 : Steps p.tables e below (s₁.setTop (entryFrame m #[.ref b, .int (Int32.ofNat o), .int (Int32.ofNat len)] 6)) (s₁.setTop (mkF m 1 #[.val (.ref b), .val (.int (Int32.ofNat o)), .val (.int (Int32.ofNat len)), .unset, .unset, .unset] [.int (Int32.ofNat len)])) := c1.trans (by
    refine XS.iloadN X0.here hexec rfl (hb hbytes d0) rfl ?_
    exact Steps.refl _)
  obtain ⟨T3, B3, X3, ba3, bs3, bv3, bh3, bf3, st3⟩ := X0.anew hexec (atype := .byte) (wk W (.arrayClass .byte)) rfl (by show len * 1 ≤ _; omega) (by omega) (g := (mkF m 1 #[.val (.ref b), .val (.int (Int32.ofNat o)), .val (.int (Int32.ofNat len)), .unset, .unset, .unset] [.int (Int32.ofNat len)])) rfl (hb hbytes d1) (rest := []) rfl (Nat.le_refl _) (by show 0 + len ≤ len; omega)
  rw [hh0] at ba3 st3
  have kp3 : XT.Kept s T3 := (XT.Kept.of_eq hh0).push bh3
  have hA3 := hA.keep X3.warmed.alike (kp3 _ _ hA.1.1)
  have hne : b ≠ s.heap.size := hA.1.ne
  have c4 : Steps p.tables e below (s₁.setTop (entryFrame m #[.ref b, .int (Int32.ofNat o), .int (Int32.ofNat len)] 6)) (T3.setTop (mkF m 3 #[.val (.ref b), .val (.int (Int32.ofNat o)), .val (.int (Int32.ofNat len)), .unset, .unset, .unset] [.ref s.heap.size])) := c2.trans (st3 _ (Steps.refl _))
  have c5 : Steps p.tables e below (s₁.setTop (entryFrame m #[.ref b, .int (Int32.ofNat o), .int (Int32.ofNat len)] 6)) (T3.setTop (mkF m 9 #[.val (.ref b), .val (.int (Int32.ofNat o)), .val (.int (Int32.ofNat len)), .val (.ref s.heap.size), .unset, .unset] [.int (Int32.ofNat len), .int 0, .ref s.heap.size, .int (Int32.ofNat o), .ref b])) := c4.trans (by
    refine XS.astoreN X3.here hexec rfl (hb hbytes d3) rfl rfl rfl ?_
    refine XS.aloadN X3.here hexec rfl (hb hbytes d4) rfl rfl ?_
    refine XS.iloadN X3.here hexec rfl (hb hbytes d5) rfl ?_
    refine XS.aloadN X3.here hexec rfl (hb hbytes d6) rfl rfl ?_
    refine iconstV X3.here hexec rfl 0 (hb hbytes d7) (by decide) ?_
    refine XS.iloadN X3.here hexec rfl (hb hbytes d8) rfl ?_
    exact Steps.refl _)
  obtain ⟨v6, T6, X6, E6, g6⟩ := X3.callS hexec (Cmp5.law l b A s.heap.size B3 o 0 len) hown (wks W (staticW U16 115 Cmp5.yN)) (wk W Cmp5.tab) (W := 0) (Nat.le_of_ble_eq_true rfl) (Nat.le_of_ble_eq_true rfl) (Nat.le_refl _) (by show 0 + len + 0 ≤ len; omega) (g := (mkF m 9 #[.val (.ref b), .val (.int (Int32.ofNat o)), .val (.int (Int32.ofNat len)), .val (.ref s.heap.size), .unset, .unset] [.int (Int32.ofNat len), .int (Int32.ofNat 0), .ref s.heap.size, .int (Int32.ofNat o), .ref b])) rfl (by rw [hml]; rfl) c5 (argsL := [.ref b, .int (Int32.ofNat o), .ref s.heap.size, .int (Int32.ofNat 0), .int (Int32.ofNat len)]) (rest := []) rfl rfl (by show 2 * 0 + 0 ≤ _; decide) (hb hbytes d9) (⟨rfl, hA3, ba3, hne, l1, by rw [bs3]; simp, hp⟩)
  obtain ⟨rfl, B6, p6, f6⟩ := E6
  have c7 : Steps p.tables e below (s₁.setTop (entryFrame m #[.ref b, .int (Int32.ofNat o), .int (Int32.ofNat len)] 6)) (T6.setTop (mkF m 12 #[.val (.ref b), .val (.int (Int32.ofNat o)), .val (.int (Int32.ofNat len)), .val (.ref s.heap.size), .unset, .unset] [.int (Int32.ofNat len)])) := g6
  have c8 : Steps p.tables e below (s₁.setTop (entryFrame m #[.ref b, .int (Int32.ofNat o), .int (Int32.ofNat len)] 6)) (T6.setTop (mkF m 58 #[.val (.ref b), .val (.int (Int32.ofNat o)), .val (.int (Int32.ofNat len)), .val (.ref s.heap.size), .val (.int (Int32.ofNat len)), .unset] [.ref s.heap.size])) := c7.trans (by
    refine XS.istore X6.here hexec rfl (hb hbytes d12) rfl rfl ?_
    refine XS.iload X6.here hexec rfl (hb hbytes d14) rfl ?_
    refine XS.iloadN X6.here hexec rfl (hb hbytes d16) rfl ?_
    refine XS.icmpYes X6.here hexec rfl (pc0 := 17) rfl (hb hbytes d17) rfl (ii_eq_t rfl) (by decide) rfl ?_
    refine XS.aloadN X6.here hexec rfl (hb hbytes d57) rfl rfl ?_
    exact Steps.refl _)
  have X8 := X6.wide (L' := []) (cells' := 1) (slots' := len) (fun x hx hlt => by
    simp only [List.nil_append, copyLocs, List.mem_map, List.mem_range] at hx
    obtain ⟨i, -, rfl⟩ := hx
    exact absurd hlt (Nat.lt_irrefl _)) (Nat.le_refl _) (by omega)
  exact ⟨T6, some (.ref s.heap.size), _, _, _, X8, rfl, rfl, rfl, (fun h => by cases h), ⟨⟨rfl, B6, ba3.like (X3.warmed.alike.symm.trans X6.warmed.alike) p6.1 f6.1 f6.2.1 f6.2.2.1, f6.2.1.trans bv3, by rw [X6.warmed.alike.findClass, f6.1]; exact bf3, by rw [f6.2.2.1, bs3]; simp, fun j hj => by rw [f6.2.2.2 j, if_pos (by omega)]; rfl, kp3.put p6 (Nat.le_refl _)⟩, by rw [p6.2.2, bh3, hh0]; simp⟩, fun fs hl => c8.trans (X8.areturnOut hexec rfl hret rfl (hb hbytes d58) hl)⟩
end Cmp3
namespace CodL
def yN : MethodName := ⟨"java/lang/StringUTF16", "coderFromArrayLen", "([BI)B"⟩
abbrev yB : ByteArray := jdk_52_method_15_code
theorem d0 : decode yB 0 = .ok (.iload_n 1, 1) := by decide +kernel
theorem d1 : decode yB 1 = .ok (.aload_n 0, 1) := by decide +kernel
theorem d2 : decode yB 2 = .ok (.arraylength, 1) := by decide +kernel
theorem d3 : decode yB 3 = .ok (.isub, 1) := by decide +kernel
theorem d4 : decode yB 4 = .ok (.bipush 31, 2) := by decide +kernel
theorem d6 : decode yB 6 = .ok (.iushr, 1) := by decide +kernel
theorem d7 : decode yB 7 = .ok (.i2b, 1) := by decide +kernel
theorem d8 : decode yB 8 = .ok (.ireturn, 1) := by decide +kernel
def site : List Cond := []
def tab : Cond := tabOf yN yB 2 (some .byte) site
def P (d : Addr) (B : Cell) (args : Array Value) (s : State) : Prop := args = #[.ref d, .int (Int32.ofNat B.slots.size)] ∧ Arr .byte d B s
def E (r : Option Value) (s u : State) : Prop := XT.PureE (some (.int 0)) r s u
/-- an array as long as the number of chars: LATIN1 -/
theorem law (l : Launch) (d : Addr) (B : Cell) : Law l yN 2 2 0 0 yB 2 (some .byte) site (P d B) E [] 0 0 := by
  refine Law.of_walk (plainFor_of_name (by decide +kernel)) (by decide +kernel) (by decide +kernel) (by decide) (fun _ _ h => by rw [h.1]; rfl) (fun _ U U' hal hh h => ⟨h.1, h.2.mv hal hh⟩) (fun r U U' V V' h1 hal h2 h => XT.PureE.mv r U U' V V' h1 hal h2 h) ?_
  intro p e s m args below meth c s₁ X0 hexec hbytes hml hret hlk hnm hown hh0 W hP
  obtain ⟨rfl, hB⟩ := hP
  have hB0 := hB.mv X0.warmed.alike hh0
  have c1 : Steps p.tables e below (s₁.setTop (entryFrame m #[.ref d, .int (Int32.ofNat B.slots.size)] 2)) (s₁.setTop (mkF m 0 #[.val (.ref d), .val (.int (Int32.ofNat B.slots.size))] [])) := entry rfl
  have c2 : Steps p.tables e below (s₁.setTop (entryFrame m #[.ref d, .int (Int32.ofNat B.slots.size)] 2)) (s₁.setTop (mkF m 2 #[.val (.ref d), .val (.int (Int32.ofNat B.slots.size))] [.ref d, .int (Int32.ofNat B.slots.size)])) := c1.trans (by
    refine XS.iloadN X0.here hexec rfl (hb hbytes d0) rfl ?_
    refine XS.aloadN X0.here hexec rfl (hb hbytes d1) rfl rfl ?_
    exact Steps.refl _)
  have c3 : Steps p.tables e below (s₁.setTop (entryFrame m #[.ref d, .int (Int32.ofNat B.slots.size)] 2)) (s₁.setTop (mkF m 8 #[.val (.ref d), .val (.int (Int32.ofNat B.slots.size))] [.int (lo8 (ushr (Int32.ofNat B.slots.size - Int32.ofNat B.slots.size) 31))])) := c2.trans (by
    refine X0.alen hexec hB0 rfl rfl (hb hbytes d2) ?_
    refine XS.isub X0.here hexec rfl (hb hbytes d3) rfl ?_
    refine bipushV X0.here hexec rfl 31 (hb hbytes d4) (by decide) ?_
    refine iushr X0.here hexec rfl (hb hbytes d6) rfl ?_
    refine i2b X0.here hexec rfl (hb hbytes d7) rfl ?_
    exact Steps.refl _)
  have e0 : lo8 (ushr (Int32.ofNat B.slots.size - Int32.ofNat B.slots.size) 31) = 0 := by rw [Int32.sub_self]; decide
  rw [e0] at c3
  exact ⟨s₁, some (.int 0), _, _, _, X0, rfl, rfl, rfl, (fun h => by cases h), ⟨rfl, hh0⟩, fun fs hl => c3.trans (X0.ireturnOut hexec hret rfl (Or.inr (Or.inr (Or.inl rfl))) (hb hbytes d8) hl)⟩
end CodL
/-- the String at a is Latin-1 over a new byte[] (the heap's one new cell): the low bytes of the len chars of A from o on; every cell but a is kept -/
def Got (a : Addr) (D : Cell) (fV fC : Field) (A : Cell) (o len : Nat) (r : Option Value) (s u : State) : Prop := r = none ∧ ∃ D' V : Cell, Blank "java/lang/String" a D' u ∧ Same D D' [fV.slot, fC.slot] ∧ D'.slots[fV.slot]? = some (.ref s.heap.size) ∧ D'.slots[fC.slot]? = some (.int 0) ∧ Arr .byte s.heap.size V u ∧ V.vm = .none ∧ u.vm.findClass "[B" = some V.cls ∧ V.slots.size = len ∧ (∀ j, j < len → V.slots[j]? = some (.int (lo8 (cv A (o + j))))) ∧ (∀ (y : Addr) (c : Cell), y ≠ a → s.heap[y]? = some c → u.heap[y]? = some c) ∧ u.heap.size = s.heap.size + 1
theorem Got.mv {a : Addr} {D A : Cell} {fV fC : Field} {o len : Nat} : ∀ r (U U' V V' : State), U'.heap = U.heap → V.vm.Alike V'.vm → V'.heap = V.heap → Got a D fV fC A o len r U V → Got a D fV fC A o len r U' V' :=
  fun r U U' V V' h1 hal h2 ⟨e0, D', X, a1, a2, a3, a4, a5, a6, a7, a8, a9, a10, a11⟩ => ⟨e0, D', X, a1.mv hal h2, a2, by rw [h1]; exact a3, a4, by rw [h1]; exact a5.mv hal h2, a6, by rw [hal.findClass]; exact a7, a8, a9, by rw [h1, h2]; exact a10, by rw [h1, h2]; exact a11⟩
namespace New4
def yN : MethodName := ⟨"java/lang/String", "<init>", "([CIILjava/lang/Void;)V"⟩
abbrev yB : ByteArray := jdk_42_method_149_code
theorem d0 : decode yB 0 = .ok (.aload_n 0, 1) := by decide +kernel
theorem d1 : decode yB 1 = .ok (.invokespecial 1, 3) := by decide +kernel
theorem d4 : decode yB 4 = .ok (.iload_n 3, 1) := by decide +kernel
theorem d5 : decode yB 5 = .ok (.ifCond (.ne) 22, 3) := by decide +kernel
theorem d27 : decode yB 27 = .ok (.getstatic 38, 3) := by decide +kernel
theorem d30 : decode yB 30 = .ok (.ifCond (.eq) 28, 3) := by decide +kernel
theorem d33 : decode yB 33 = .ok (.aload_n 1, 1) := by decide +kernel
theorem d34 : decode yB 34 = .ok (.iload_n 2, 1) := by decide +kernel
theorem d35 : decode yB 35 = .ok (.iload_n 3, 1) := by decide +kernel
theorem d36 : decode yB 36 = .ok (.invokestatic 177, 3) := by decide +kernel
theorem d39 : decode yB 39 = .ok (.astore 5, 2) := by decide +kernel
theorem d41 : decode yB 41 = .ok (.aload_n 0, 1) := by decide +kernel
theorem d42 : decode yB 42 = .ok (.aload 5, 2) := by decide +kernel
theorem d44 : decode yB 44 = .ok (.iload_n 3, 1) := by decide +kernel
theorem d45 : decode yB 45 = .ok (.invokestatic 47, 3) := by decide +kernel
theorem d48 : decode yB 48 = .ok (.putfield 15, 3) := by decide +kernel
theorem d51 : decode yB 51 = .ok (.aload_n 0, 1) := by decide +kernel
theorem d52 : decode yB 52 = .ok (.aload 5, 2) := by decide +kernel
theorem d54 : decode yB 54 = .ok (.putfield 9, 3) := by decide +kernel
theorem d57 : decode yB 57 = .ok (.return_, 1) := by decide +kernel
def site : List Cond := [.fieldLink "java/lang/String" 38 "java/lang/String" "COMPACT_STRINGS" "Z", Cmp3.tab, CodL.tab, .laysFinal "java/lang/String" "java/lang/String" "value" "[B", .fieldLink "java/lang/String" 9 "java/lang/String" "value" "[B", .laysFinal "java/lang/String" "java/lang/String" "coder" "B", .fieldLink "java/lang/String" 15 "java/lang/String" "coder" "B"] ++ objW "java/lang/String" 1 ++ staticW "java/lang/String" 177 Cmp3.yN ++ staticW "java/lang/String" 47 CodL.yN
def tab : Cond := tabOf yN yB 6 none site
def P (a : Addr) (D : Cell) (fV fC : Field) (b : Addr) (A : Cell) (z : Int32) (o len : Nat) (args : Array Value) (s : State) : Prop := args = #[.ref a, .ref b, .int (Int32.ofNat o), .int (Int32.ofNat len), .null] ∧ Blank "java/lang/String" a D s ∧ Found "java/lang/String" "value" "[B" fV s ∧ Found "java/lang/String" "coder" "B" fC s ∧ Ch b A s ∧ StaticIs s "java/lang/String" "COMPACT_STRINGS" "Z" (.int z) ∧ ¬ z = 0 ∧ 0 < len ∧ o + len ≤ A.slots.size ∧ len ≤ 536870912 ∧ ∀ i, i < len → ¬ 255 < cv A (o + i)
def E (a : Addr) (D : Cell) (fV fC : Field) (A : Cell) (o len : Nat) (r : Option Value) (s u : State) : Prop := Got a D fV fC A o len r s u
/-- len > 0, no char of the range above 255: a Latin-1 String of their low bytes -/
theorem law (l : Launch) (a : Addr) (D : Cell) (fV fC : Field) (b : Addr) (A : Cell) (z : Int32) (o len : Nat) : Law l yN 5 4 2 35 yB 6 none site (P a D fV fC b A z o len) (E a D fV fC A o len) [⟨a, fC.slot⟩, ⟨a, fV.slot⟩] 1 len := by
  refine Law.of_walk (plainFor_of_name (by decide +kernel)) (by decide +kernel) (by decide +kernel) (by decide) (fun _ _ h => by rw [h.1]; rfl) (fun _ U U' hal hh h => ⟨h.1, h.2.1.mv hal hh, h.2.2.1.al hal, h.2.2.2.1.al hal, h.2.2.2.2.1.mv hal hh, h.2.2.2.2.2.1.there hal hh, h.2.2.2.2.2.2⟩) (fun r U U' V V' h1 hal h2 h => Got.mv r U U' V V' h1 hal h2 h) ?_
  intro p e s m args below meth c s₁ X0 hexec hbytes hml hret hlk hnm hown hh0 W hP
  obtain ⟨rfl, hB, f1, f2, hA, s1, hz, l0, l1, l2, hp⟩ := hP
  have a31 := hA.1.2.2.2
  have c1 : Steps p.tables e below (s₁.setTop (entryFrame m #[.ref a, .ref b, .int (Int32.ofNat o), .int (Int32.ofNat len), .null] 6)) (s₁.setTop (mkF m 0 #[.val (.ref a), .val (.ref b), .val (.int (Int32.ofNat o)), .val (.int (Int32.ofNat len)), .val .null, .unset] [])) := entry rfl
  have c2 : Steps p.tables e below (s₁.setTop (entryFrame m #[.ref a, .ref b, .int (Int32.ofNat o), .int (Int32.ofNat len), .null] 6)) (s₁.setTop (mkF m 1 #[.val (.ref a), .val (.ref b), .val (.int (Int32.ofNat o)), .val (.int (Int32.ofNat len)), .val .null, .unset] [.ref a])) := c1.trans (by
    refine XS.aloadN X0.here hexec rfl (hb hbytes d0) rfl rfl ?_
    exact Steps.refl _)
  obtain ⟨T3, X3, q3, st3⟩ := X0.oinit hexec hown (wks W (objW "java/lang/String" 1)) (g := (mkF m 1 #[.val (.ref a), .val (.ref b), .val (.int (Int32.ofNat o)), .val (.int (Int32.ofNat len)), .val .null, .unset] [.ref a])) rfl (by rw [hml]; rfl) (rest := []) rfl (hb hbytes d1) (W := 0) (by show 2 * 0 + 0 ≤ _; decide) (Nat.le_of_ble_eq_true rfl) (Nat.le_of_ble_eq_true rfl)
  have hh3 := q3.trans hh0
  have c4 : Steps p.tables e below (s₁.setTop (entryFrame m #[.ref a, .ref b, .int (Int32.ofNat o), .int (Int32.ofNat len), .null] 6)) (T3.setTop (mkF m 27 #[.val (.ref a), .val (.ref b), .val (.int (Int32.ofNat o)), .val (.int (Int32.ofNat len)), .val .null, .unset] [])) := (c2.trans (st3 _ (Steps.refl _))).trans (by
    refine XS.iloadN X3.here hexec rfl (hb hbytes d4) rfl ?_
    refine XS.ifYes X3.here hexec rfl (pc0 := 5) rfl (hb hbytes d5) rfl (i0_ne_t (nz32 (by omega) l0)) (by decide) rfl ?_
    exact Steps.refl _)
  obtain ⟨T5, X5, q5, st5⟩ := X3.sget hexec hown (wk W (.fieldLink "java/lang/String" 38 "java/lang/String" "COMPACT_STRINGS" "Z")) s1 (fun _ _ h => by rw [hh3]; exact h) (g := (mkF m 27 #[.val (.ref a), .val (.ref b), .val (.int (Int32.ofNat o)), .val (.int (Int32.ofNat len)), .val .null, .unset] [])) rfl (hb hbytes d27)
  have hh5 := q5.trans hh3
  have c6 : Steps p.tables e below (s₁.setTop (entryFrame m #[.ref a, .ref b, .int (Int32.ofNat o), .int (Int32.ofNat len), .null] 6)) (T5.setTop (mkF m 30 #[.val (.ref a), .val (.ref b), .val (.int (Int32.ofNat o)), .val (.int (Int32.ofNat len)), .val .null, .unset] [.int z])) := c4.trans (st5 _ (Steps.refl _))
  have c7 : Steps p.tables e below (s₁.setTop (entryFrame m #[.ref a, .ref b, .int (Int32.ofNat o), .int (Int32.ofNat len), .null] 6)) (T5.setTop (mkF m 36 #[.val (.ref a), .val (.ref b), .val (.int (Int32.ofNat o)), .val (.int (Int32.ofNat len)), .val .null, .unset] [.int (Int32.ofNat len), .int (Int32.ofNat o), .ref b])) := c6.trans (by
    refine XS.ifNo X5.here hexec rfl (hb hbytes d30) rfl (i0_eq_f hz) ?_
    refine XS.aloadN X5.here hexec rfl (hb hbytes d33) rfl rfl ?_
    refine XS.iloadN X5.here hexec rfl (hb hbytes d34) rfl ?_
    refine XS.iloadN X5.here hexec rfl (hb hbytes d35) rfl ?_
    exact Steps.refl _)
  obtain ⟨v8, T8, X8, E8, g8⟩ := X5.callS hexec (Cmp3.law l b A o len) hown (wks W (staticW "java/lang/String" 177 Cmp3.yN)) (wk W Cmp3.tab) (W := 0) (Nat.le_of_ble_eq_true rfl) (Nat.le_of_ble_eq_true rfl) (Nat.le_refl _) (by show 0 + len ≤ len; omega) (g := (mkF m 36 #[.val (.ref a), .val (.ref b), .val (.int (Int32.ofNat o)), .val (.int (Int32.ofNat len)), .val .null, .unset] [.int (Int32.ofNat len), .int (Int32.ofNat o), .ref b])) rfl (by rw [hml]; rfl) c7 (argsL := [.ref b, .int (Int32.ofNat o), .int (Int32.ofNat len)]) (rest := []) rfl rfl (by show 2 * 0 + 0 ≤ _; decide) (hb hbytes d36) (⟨rfl, hA.mv X5.warmed.alike hh5, l1, l2, hp⟩)
  obtain ⟨e8, z8⟩ := E8
  obtain ⟨rfl, N, n1, n2, n3, n4, n5, n6⟩ := NewArr.mv _ T5 s _ _ hh5.symm (Vm.Alike.refl _) rfl e8
  rw [hh5] at z8
  have hB1 := hB.keep X8.warmed.alike (n6 _ _ hB.1)
  have hne : s.heap.size ≠ a := (Nat.ne_of_lt (Array.getElem?_eq_some_iff.mp hB.1).1).symm
  have c9 : Steps p.tables e below (s₁.setTop (entryFrame m #[.ref a, .ref b, .int (Int32.ofNat o), .int (Int32.ofNat len), .null] 6)) (T8.setTop (mkF m 39 #[.val (.ref a), .val (.ref b), .val (.int (Int32.ofNat o)), .val (.int (Int32.ofNat len)), .val .null, .unset] [.ref s.heap.size])) := g8
  have c10 : Steps p.tables e below (s₁.setTop (entryFrame m #[.ref a, .ref b, .int (Int32.ofNat o), .int (Int32.ofNat len), .null] 6)) (T8.setTop (mkF m 45 #[.val (.ref a), .val (.ref b), .val (.int (Int32.ofNat o)), .val (.int (Int32.ofNat len)), .val .null, .val (.ref s.heap.size)] [.int (Int32.ofNat N.slots.size), .ref s.heap.size, .ref a])) := by
    have hc : Steps p.tables e below (s₁.setTop (entryFrame m #[.ref a, .ref b, .int (Int32.ofNat o), .int (Int32.ofNat len), .null] 6)) (T8.setTop (mkF m 45 #[.val (.ref a), .val (.ref b), .val (.int (Int32.ofNat o)), .val (.int (Int32.ofNat len)), .val .null, .val (.ref s.heap.size)] [.int (Int32.ofNat len), .ref s.heap.size, .ref a])) := c9.trans (by
      refine XS.astore X8.here hexec rfl (hb hbytes d39) rfl rfl rfl ?_
      refine XS.aloadN X8.here hexec rfl (hb hbytes d41) rfl rfl ?_
      refine XS.aload X8.here hexec rfl (hb hbytes d42) rfl rfl ?_
      refine XS.iloadN X8.here hexec rfl (hb hbytes d44) rfl ?_
      exact Steps.refl _)
    rw [n4]; exact hc
  obtain ⟨v11, T11, X11, E11, g11⟩ := X8.callS hexec (CodL.law l s.heap.size N) hown (wks W (staticW "java/lang/String" 47 CodL.yN)) (wk W CodL.tab) (W := 1) (Nat.le_of_ble_eq_true rfl) (Nat.le_of_ble_eq_true rfl) (Nat.le_refl _) (by show 0 + len + 0 ≤ len; omega) (g := (mkF m 45 #[.val (.ref a), .val (.ref b), .val (.int (Int32.ofNat o)), .val (.int (Int32.ofNat len)), .val .null, .val (.ref s.heap.size)] [.int (Int32.ofNat N.slots.size), .ref s.heap.size, .ref a])) rfl (by rw [hml]; rfl) c10 (argsL := [.ref s.heap.size, .int (Int32.ofNat N.slots.size)]) (rest := [.ref a]) rfl rfl (by show 2 * 0 + (1 + 0) ≤ _; decide) (hb hbytes d45) (⟨rfl, n1⟩)
  obtain ⟨rfl, q11⟩ := E11
  have hB11 := hB1.mv (X8.warmed.alike.symm.trans X11.warmed.alike) q11
  have c12 : Steps p.tables e below (s₁.setTop (entryFrame m #[.ref a, .ref b, .int (Int32.ofNat o), .int (Int32.ofNat len), .null] 6)) (T11.setTop (mkF m 48 #[.val (.ref a), .val (.ref b), .val (.int (Int32.ofNat o)), .val (.int (Int32.ofNat len)), .val .null, .val (.ref s.heap.size)] [.int 0, .ref a])) := g11
  obtain ⟨T13, X13, p13, bl13, sl13, st13⟩ := X11.finit hexec hown (wk W (.fieldLink "java/lang/String" 15 "java/lang/String" "coder" "B")) (Or.inr ⟨_, (wk W (.laysFinal "java/lang/String" "java/lang/String" "coder" "B"))⟩) (Or.inl ⟨rfl, hnm⟩) f2 (Or.inl rfl) hB11 (t := .byte) (by decide +kernel) rfl (g := (mkF m 48 #[.val (.ref a), .val (.ref b), .val (.int (Int32.ofNat o)), .val (.int (Int32.ofNat len)), .val .null, .val (.ref s.heap.size)] [.int 0, .ref a])) rfl (rest := []) rfl (hb hbytes d48)
  have c14 : Steps p.tables e below (s₁.setTop (entryFrame m #[.ref a, .ref b, .int (Int32.ofNat o), .int (Int32.ofNat len), .null] 6)) (T13.setTop (mkF m 54 #[.val (.ref a), .val (.ref b), .val (.int (Int32.ofNat o)), .val (.int (Int32.ofNat len)), .val .null, .val (.ref s.heap.size)] [.ref s.heap.size, .ref a])) := (c12.trans (st13 _ (Steps.refl _))).trans (by
    refine XS.aloadN X13.here hexec rfl (hb hbytes d51) rfl rfl ?_
    refine XS.aload X13.here hexec rfl (hb hbytes d52) rfl rfl ?_
    exact Steps.refl _)
  obtain ⟨T15, X15, p15, bl15, sl15, st15⟩ := X13.finit hexec hown (wk W (.fieldLink "java/lang/String" 9 "java/lang/String" "value" "[B")) (Or.inr ⟨_, (wk W (.laysFinal "java/lang/String" "java/lang/String" "value" "[B"))⟩) (Or.inl ⟨rfl, hnm⟩) f1 (Or.inl rfl) bl13 (t := (.array .byte)) (by decide +kernel) rfl (g := (mkF m 54 #[.val (.ref a), .val (.ref b), .val (.int (Int32.ofNat o)), .val (.int (Int32.ofNat len)), .val .null, .val (.ref s.heap.size)] [.ref s.heap.size, .ref a])) rfl (rest := []) rfl (hb hbytes d54)
  have c16 : Steps p.tables e below (s₁.setTop (entryFrame m #[.ref a, .ref b, .int (Int32.ofNat o), .int (Int32.ofNat len), .null] 6)) (T15.setTop (mkF m 57 #[.val (.ref a), .val (.ref b), .val (.int (Int32.ofNat o)), .val (.int (Int32.ofNat len)), .val .null, .val (.ref s.heap.size)] [])) := c14.trans (st15 _ (Steps.refl _))
  have ap := apart (Or.inr ⟨_, (wk W (.laysFinal "java/lang/String" "java/lang/String" "value" "[B"))⟩) (Or.inr ⟨_, (wk W (.laysFinal "java/lang/String" "java/lang/String" "coder" "B"))⟩) f1 f2 (t₁ := .array .byte) (t₂ := .byte) (by decide +kernel) (by decide +kernel) (by decide)
  have al := X8.warmed.alike.symm.trans X15.warmed.alike
  have n7 : T11.heap[s.heap.size]? = some N := by rw [q11]; exact n1.1
  exact ⟨T15, none, _, _, _, X15, by simp, rfl, by omega, (fun _ => rfl), ⟨rfl, _, N, bl15, ((Same.refl D _).set _ (by simp)).set _ (by simp), sl15, (Cell.slots_setSlot_ne _ ap).trans sl13, n1.keep al (p15.other hne (p13.other hne n7)), n2, by rw [al.findClass]; exact n3, n4, n5, fun y c h1 h2 => p15.other h1 (p13.other h1 (by rw [q11]; exact n6 y c h2)), by rw [p15.2.2, p13.2.2, q11]; exact z8⟩, fun fs hl => c16.trans (X15.returnOut hexec hret (hb hbytes d57) hl)⟩
end New4
namespace New1
def yN : MethodName := ⟨"java/lang/String", "<init>", "([C)V"⟩
abbrev yB : ByteArray := jdk_42_method_3_code
theorem d0 : decode yB 0 = .ok (.aload_n 0, 1) := by decide +kernel
theorem d1 : decode yB 1 = .ok (.aload_n 1, 1) := by decide +kernel
theorem d2 : decode yB 2 = .ok (.iconst 0, 1) := by decide +kernel
theorem d3 : decode yB 3 = .ok (.aload_n 1, 1) := by decide +kernel
theorem d4 : decode yB 4 = .ok (.arraylength, 1) := by decide +kernel
theorem d5 : decode yB 5 = .ok (.aconst_null, 1) := by decide +kernel
theorem d6 : decode yB 6 = .ok (.invokespecial 27, 3) := by decide +kernel
theorem d9 : decode yB 9 = .ok (.return_, 1) := by decide +kernel
def site : List Cond := [New4.tab] ++ initW "java/lang/String" 27 New4.yN
def tab : Cond := tabOf yN yB 2 none site
def P (a : Addr) (D : Cell) (fV fC : Field) (b : Addr) (A : Cell) (z : Int32) (args : Array Value) (s : State) : Prop := args = #[.ref a, .ref b] ∧ Blank "java/lang/String" a D s ∧ Found "java/lang/String" "value" "[B" fV s ∧ Found "java/lang/String" "coder" "B" fC s ∧ Ch b A s ∧ StaticIs s "java/lang/String" "COMPACT_STRINGS" "Z" (.int z) ∧ ¬ z = 0 ∧ 0 < A.slots.size ∧ A.slots.size ≤ 536870912 ∧ ∀ i, i < A.slots.size → ¬ 255 < cv A i
def E (a : Addr) (D : Cell) (fV fC : Field) (A : Cell) (r : Option Value) (s u : State) : Prop := Got a D fV fC A 0 A.slots.size r s u
/-- new String(chars), not empty, no char above 255: a Latin-1 String of their low bytes -/
theorem law (l : Launch) (a : Addr) (D : Cell) (fV fC : Field) (b : Addr) (A : Cell) (z : Int32) : Law l yN 2 1 3 52 yB 2 none site (P a D fV fC b A z) (E a D fV fC A) [⟨a, fC.slot⟩, ⟨a, fV.slot⟩] 1 A.slots.size := by
  refine Law.of_walk (plainFor_of_name (by decide +kernel)) (by decide +kernel) (by decide +kernel) (by decide) (fun _ _ h => by rw [h.1]; rfl) (fun _ U U' hal hh h => ⟨h.1, h.2.1.mv hal hh, h.2.2.1.al hal, h.2.2.2.1.al hal, h.2.2.2.2.1.mv hal hh, h.2.2.2.2.2.1.there hal hh, h.2.2.2.2.2.2⟩) (fun r U U' V V' h1 hal h2 h => Got.mv r U U' V V' h1 hal h2 h) ?_
  intro p e s m args below meth c s₁ X0 hexec hbytes hml hret hlk hnm hown hh0 W hP
  obtain ⟨rfl, hB, f1, f2, hA, s1, hz, l0, l2, hp⟩ := hP
  have c1 : Steps p.tables e below (s₁.setTop (entryFrame m #[.ref a, .ref b] 2)) (s₁.setTop (mkF m 0 #[.val (.ref a), .val (.ref b)] [])) := entry rfl
  have c2 : Steps p.tables e below (s₁.setTop (entryFrame m #[.ref a, .ref b] 2)) (s₁.setTop (mkF m 6 #[.val (.ref a), .val (.ref b)] [.null, .int (Int32.ofNat A.slots.size), .int 0, .ref b, .ref a])) := c1.trans (by
    refine XS.aloadN X0.here hexec rfl (hb hbytes d0) rfl rfl ?_
    refine XS.aloadN X0.here hexec rfl (hb hbytes d1) rfl rfl ?_
    refine iconstV X0.here hexec rfl 0 (hb hbytes d2) (by decide) ?_
    refine XS.aloadN X0.here hexec rfl (hb hbytes d3) rfl rfl ?_
    refine X0.alen hexec (hA.1.mv X0.warmed.alike hh0) rfl rfl (hb hbytes d4) ?_
    refine XS.aconstNull X0.here hexec rfl (hb hbytes d5) ?_
    exact Steps.refl _)
  obtain ⟨v3, T3, X3, E3, g3⟩ := X0.callN hexec (New4.law l a D fV fC b A z 0 A.slots.size) rfl hown (wks W (initW "java/lang/String" 27 New4.yN)) (W New4.tab (by simp only [site, List.mem_cons, List.mem_append, true_or, or_true])) (W := 0) (Nat.le_of_ble_eq_true rfl) (Nat.le_of_ble_eq_true rfl) (Nat.le_refl _) (by show 0 + A.slots.size ≤ A.slots.size; omega) (g := (mkF m 6 #[.val (.ref a), .val (.ref b)] [.null, .int (Int32.ofNat A.slots.size), .int (Int32.ofNat 0), .ref b, .ref a])) rfl (by rw [hml]; rfl) c2 (argsL := [.ref b, .int (Int32.ofNat 0), .int (Int32.ofNat A.slots.size), .null]) (rest := []) rfl rfl (by show 2 * 0 + 0 ≤ _; decide) (hb hbytes d6) (⟨rfl, hB.mv X0.warmed.alike hh0, f1.al X0.warmed.alike, f2.al X0.warmed.alike, hA.mv X0.warmed.alike hh0, s1.there X0.warmed.alike hh0, hz, l0, by omega, l2, fun i hi => by rw [Nat.zero_add]; exact hp i hi⟩)
  have e0 := Got.mv _ s₁ s _ _ hh0.symm (Vm.Alike.refl _) rfl E3
  obtain rfl := e0.1
  have c4 : Steps p.tables e below (s₁.setTop (entryFrame m #[.ref a, .ref b] 2)) (T3.setTop (mkF m 9 #[.val (.ref a), .val (.ref b)] [])) := g3
  exact ⟨T3, none, _, _, _, X3, by simp, rfl, by omega, (fun _ => rfl), e0, fun fs hl => c4.trans (X3.returnOut hexec hret (hb hbytes d9) hl)⟩
theorem pays {l : Launch} {R : Room} {p : Program} {e : Env} {below : List Frame} {s : State} {sargs : Array Value} {len W : Nat} (a : Addr) (D : Cell) (fV fC : Field) (b : Addr) (A : Cell) (z : Int32) (htab : tab.before sargs s = true) (hfr : 4 ≤ R.frames) (hlo : W + 65 ≤ R.locals) :
    Back l R p e below s sargs yN len W (fun A₁ a₁ => A₁.cells + 1 ≤ R.cells ∧ A₁.slots + A.slots.size ≤ R.slots ∧ P a D fV fC b A z a₁ A₁.U) (fun A₁ _ v₁ B₁ => E a D fV fC A v₁ A₁.U B₁.U ∧ B₁.locs = A₁.locs ++ [⟨a, fC.slot⟩, ⟨a, fV.slot⟩] ∧ B₁.cells = A₁.cells + 1 ∧ B₁.slots = A₁.slots + A.slots.size) :=
  (law l a D fV fC b A z).pays htab hfr (by omega)
end New1
end StrChars
namespace StrChars.Road
open Jvm Sem ClassFile Op Lib Jvm.Stand Jvm.Free Jvm.Free.XT
open Jvm.Lib.Cold (StaticIs)
abbrev ST : String := "java/lang/String"
/-- every table word that New1's law asks, flat -/
abbrev words : List Jvm.Cond := [.code New1.yN New1.yB 2 none, .initialized ST, .methodLink ST 27 New4.yN, .instanceMethod New4.yN,
  .code New4.yN New4.yB 6 none, .fieldLink ST 38 ST "COMPACT_STRINGS" "Z", .laysFinal ST ST "value" "[B", .fieldLink ST 9 ST "value" "[B", .laysFinal ST ST "coder" "B", .fieldLink ST 15 ST "coder" "B",
  .methodLink ST 1 Lib.objectInit, .instanceMethod Lib.objectInit, .code Lib.objectInit ⟨#[0xb1]⟩ 1 none, .methodLink ST 177 Cmp3.yN, .static Cmp3.yN, .methodLink ST 47 CodL.yN, .static CodL.yN,
  .code Cmp3.yN Cmp3.yB 6 (some (.array .byte)), .initialized U16, .arrayClass .byte, .methodLink U16 115 Cmp5.yN, .static Cmp5.yN, .code Cmp5.yN Cmp5.yB 7 (some .int), .code CodL.yN CodL.yB 2 (some .byte)]
theorem tab_of {a : Array Value} {s : State} (h : ∀ w ∈ words, w.before a s = true) : New1.tab.before a s = true := by
  have h5 : Cmp5.tab.before a s = true := unparts (wk h (.code Cmp5.yN Cmp5.yB 7 (some .int))) (wks h (.initialized Cmp5.yN.cls :: Cmp5.site))
  have hc : CodL.tab.before a s = true := unparts (wk h (.code CodL.yN CodL.yB 2 (some .byte))) (wks h (.initialized CodL.yN.cls :: CodL.site))
  have q5 : ∀ w ∈ Cmp5.tab :: words, w.before a s = true := fun w hw => (List.mem_cons.mp hw).elim (fun e => e ▸ h5) (h w)
  have h3 : Cmp3.tab.before a s = true := unparts (wk q5 (.code Cmp3.yN Cmp3.yB 6 (some (.array .byte)))) (wks q5 (.initialized Cmp3.yN.cls :: Cmp3.site))
  have q3 : ∀ w ∈ Cmp3.tab :: CodL.tab :: words, w.before a s = true := fun w hw => (List.mem_cons.mp hw).elim (fun e => e ▸ h3) fun hw => (List.mem_cons.mp hw).elim (fun e => e ▸ hc) (h w)
  have h4 : New4.tab.before a s = true := unparts (wk q3 (.code New4.yN New4.yB 6 none)) (wks q3 (.initialized New4.yN.cls :: New4.site))
  have q4 : ∀ w ∈ New4.tab :: words, w.before a s = true := fun w hw => (List.mem_cons.mp hw).elim (fun e => e ▸ h4) (h w)
  exact unparts (wk q4 (.code New1.yN New1.yB 2 none)) (wks q4 (.initialized New1.yN.cls :: New1.site))
/-- the words ride from the start Z to the walk's own state -/
theorem moved {Z s : State} {a0 args : Array Value} (hZ : Z.Warmed39 s.vm) (hw : ∀ d ∈ words, d.before a0 Z = true) : ∀ d ∈ words, d.before args s = true := fun d hd => by
  have q := hw d hd
  have t : ∀ d ∈ words, d = .arrayClass .byte ∨ (d.onTables && d.keepsFace) = true := by decide +kernel
  rcases t d hd with rfl | t
  · exact RoadKit.mvA hZ q
  · exact RoadKit.mv hZ q t
/-- WHAT COMES BACK, over the tables of the start Z: h the heap at the call, h' behind it -/
def Q (Z : State) (x : Addr) (A : Cell) (h : Heap) (v : Option Value) (h' : Heap) (L : List Loc) : Prop := v = none ∧ (∀ y ∈ L, y.base = x) ∧ RoadKit.Keep h h' [x] ∧ h'.size = h.size + 1 ∧ RoadKit.Exa Z h' x ST ∧ RoadKit.Fld Z h' x ST "value" "[B" (.ref h.size) ∧ RoadKit.Fld Z h' x ST "coder" "B" (.int 0) ∧
  (∃ V : Cell, RoadKit.Arr Z h' h.size V .byte ∧ V.vm = .none ∧ Z.vm.findClass "[B" = some V.cls ∧ V.slots.size = A.slots.size ∧ ∀ j, j < A.slots.size → V.slots[j]? = some (.int (lo8 (cv A j)))) ∧
  ∀ (O n d : String) (w : Value), RoadKit.Fld Z h x O n d w → RoadKit.slotOf Z O n d ≠ RoadKit.slotOf Z ST "value" "[B" → RoadKit.slotOf Z O n d ≠ RoadKit.slotOf Z ST "coder" "B" → RoadKit.Fld Z h' x O n d w
/-- **new String(chars) AT A CALL, IN THE ROAD'S FORM**: for specialBack behind newO: x the fresh String, b the char[] with the cell A -/
theorem back {p : Program} {l : Launch} {e : Env} {R : Room} {s : State} {args : Array Value} {below : List Frame} {len W : Nat} {Z : State} {a0 : Array Value} {h : Heap} (hZ : Z.Warmed39 s.vm) (hw : ∀ d ∈ words, d.before a0 Z = true) {kI : Nat} (wi : (Jvm.Cond.instantiable ST kI).before a0 Z = true)
    {x b : Addr} {A : Cell} {z : Int32} {v0 c0 : Value} (E : RoadKit.Exa Z h x ST) (V : RoadKit.Fld Z h x ST "value" "[B" v0) (C : RoadKit.Fld Z h x ST "coder" "B" c0) (K : RoadKit.Arr Z h b A .char) (hty : Typed .char A) (S : RoadKit.Sta Z h ST "COMPACT_STRINGS" "Z" (.int z)) (hz : ¬ z = 0)
    (l0 : 0 < A.slots.size) (l2 : A.slots.size ≤ 536870912) (hp : ∀ i, i < A.slots.size → ¬ 255 < cv A i) (hfr : 4 ≤ R.frames) (hlo : W + 65 ≤ R.locals) :
    Back l R p e below s args New1.yN len W (fun P a => a = #[.ref x, .ref b] ∧ P.U.heap = h ∧ P.cells + 1 ≤ R.cells ∧ P.slots + A.slots.size ≤ R.slots)
      (fun P _ v B => ∃ L, Q Z x A h v B.U.heap L ∧ B.locs = P.locs ++ L ∧ B.cells = P.cells + 1 ∧ B.slots = P.slots + A.slots.size) := by
  intro m meth c P g ig mk a X hg hsize hdg hW hn hp'
  obtain ⟨rfl, rfl, r1, r2⟩ := hp'
  have al : Z.vm.Alike P.U.vm := hZ.alike.trans X.warmed.alike
  obtain ⟨D, cfV, kV, iV, fV, hD, gV, stV, knV, obV, asV, slV⟩ := id V
  obtain ⟨D', cfC, kC, iC, fC, hD', gC, stC, -, -, asC, slC⟩ := id C
  cases hD.symm.trans hD'
  obtain ⟨D2, kD, e1, e2, e3, e4, e5⟩ := id E
  cases hD.symm.trans e1
  obtain ⟨c2, k2, i1, i2, i3, -⟩ := Cond.instantiable_spec wi
  cases e2.symm.trans i1
  cases e3.symm.trans i2
  obtain ⟨kU, u1, u2⟩ := al.2.2 _ _ e3
  have hB : Blank ST x D P.U := ⟨hD, ⟨knV, fun q hq => by rw [hq] at obV; cases obV⟩, by rw [al.findClass]; exact e2, kU, u1, by rw [u2]; exact i3, by rw [u2]; exact e5 i3⟩
  have F1 : Found ST "value" "[B" fV P.U := ⟨SBG.found_only al ⟨cfV, kV, iV, gV⟩, stV⟩
  have F2 : Found ST "coder" "B" fC P.U := ⟨SBG.found_only al ⟨cfC, kC, iC, gC⟩, stC⟩
  have hA : Ch b A P.U := ⟨⟨K.1, State.isArrayOf_alike al K.2.1, K.2.2, by omega⟩, hty⟩
  have hS : StaticIs P.U ST "COMPACT_STRINGS" "Z" (.int z) := by
    obtain ⟨cfS, iS, kS, fS, st, cS, t1, t2, t3, t4, t5, t6, t7⟩ := S
    exact StaticIs.there (s := { Z with heap := P.U.heap }) ⟨cfS, iS, kS, fS, st, cS, t1, t2, t3, t4, t5, (fun q => by rw [q] at t6; cases t6), t7⟩ al rfl
  obtain ⟨v, B, X', ⟨⟨hv, E', V', q1, q2, q3, q4, q5, q6, q7, q8, q9, q10, q11⟩, hl, hc, hs⟩, st⟩ := New1.pays x D fV fC b A z (tab_of (moved hZ hw)) hfr hlo m meth c P g ig mk _ X hg hsize hdg hW hn ⟨r1, r2, rfl, hB, F1, F2, hA, hS, hz, l0, l2, hp⟩
  have al' : Z.vm.Alike B.U.vm := hZ.alike.trans X'.warmed.alike
  have hsz : E'.slots.size = D.slots.size := by
    obtain ⟨-, -, -, kB, w1, w2, w3⟩ := q1
    obtain ⟨kB', y1, y2⟩ := al'.2.2 _ _ e3
    rw [q2.2.1] at w1
    cases w1.symm.trans y1
    rw [w3, e5 i3, y2]
  refine ⟨v, B, X', ⟨_, ⟨hv, ?_, ⟨by omega, fun y cy hy hn' => q10 y cy (by simpa using hn') hy, fun y cy hy => ?_⟩, q11, ⟨E', _, q1.1, by rw [q2.2.1]; exact e2, by rw [q2.2.1]; exact e3, by rw [q2.1]; exact obV, fun _ => by rw [hsz]; exact e5 i3⟩,
    ⟨E', cfV, kV, iV, fV, q1.1, gV, stV, by rw [q2.1]; exact knV, by rw [q2.1]; exact obV, by rw [q2.2.1]; exact asV, q3⟩, ⟨E', cfC, kC, iC, fC, q1.1, gC, stC, by rw [q2.1]; exact knV, by rw [q2.1]; exact obV, by rw [q2.2.1]; exact asC, q4⟩,
    ⟨V', ⟨q5.1, State.isArrayOf_alike al'.symm q5.2.1, q5.2.2.1⟩, q6, by rw [← al'.findClass]; exact q7, q8, fun j hj => by have := q9 j hj; rwa [Nat.zero_add] at this⟩, fun O n d w F n1 n2 => ?_⟩, hl, hc, hs⟩, st⟩
  · intro y hy
    simp only [List.mem_cons, List.not_mem_nil, or_false] at hy
    rcases hy with rfl | rfl <;> rfl
  · by_cases q : y = x
    · subst q
      cases hD.symm.trans hy
      exact ⟨E', q1.1, q2.2.1, q2.1, hsz⟩
    · exact ⟨cy, q10 y cy q hy, rfl, rfl, rfl⟩
  · obtain ⟨D3, cf, k, i, f, g1, g2, g3, g4, g5, g6, g7⟩ := F
    cases hD.symm.trans g1
    simp only [RoadKit.slotOf, g2, gV, gC, Option.map_some, Option.getD_some] at n1 n2
    exact ⟨E', cf, k, i, f, q1.1, g2, g3, by rw [q2.1]; exact g4, by rw [q2.1]; exact g5, by rw [q2.2.1]; exact g6, by rw [q2.2.2 f.slot (by simp [n1, n2])]; exact g7⟩
end StrChars.Road
namespace StrChars.Road
open Jvm Sem ClassFile Op Lib Jvm.Stand Jvm.Free Jvm.Free.XT
/-- WHAT COMES BACK, the byte[] as a list of values -/
def QA (Z : State) (x : Addr) (zn : Int32) (cs : List Int32) (h : Heap) (v : Option Value) (h' : Heap) (L : List Loc) : Prop := v = none ∧ (∀ y ∈ L, y.base = x) ∧ RoadKit.Keep h h' [x] ∧ h'.size = h.size + 1 ∧ RoadKit.Exa Z h' x ST ∧ RoadKit.Fld Z h' x ST "value" "[B" (.ref h.size) ∧ RoadKit.Fld Z h' x ST "coder" "B" (.int 0) ∧
  (∃ kb, Z.vm.findClass "[B" = some kb ∧ RoadKit.Arv Z h' h.size kb .byte zn (cs.map fun c => .int (lo8 c)) (.int 0)) ∧
  ∀ (O n d : String) (w : Value), RoadKit.Fld Z h x O n d w → RoadKit.slotOf Z O n d ≠ RoadKit.slotOf Z ST "value" "[B" → RoadKit.slotOf Z O n d ≠ RoadKit.slotOf Z ST "coder" "B" → RoadKit.Fld Z h' x O n d w
/-- **new String(chars) AT A CALL, THE ARRAYS AS LISTS**: the char[] at b holds cs, not empty, no char above 255 -/
theorem backArv {p : Program} {l : Launch} {e : Env} {R : Room} {s : State} {args : Array Value} {below : List Frame} {len W : Nat} {Z : State} {a0 : Array Value} {h : Heap} (hZ : Z.Warmed39 s.vm) (hw : ∀ d ∈ words, d.before a0 Z = true) {kI : Nat} (wi : (Jvm.Cond.instantiable ST kI).before a0 Z = true)
    {x b : Addr} {k : ClassId} {zn z : Int32} {cs : List Int32} {dv v0 c0 : Value} (E : RoadKit.Exa Z h x ST) (V : RoadKit.Fld Z h x ST "value" "[B" v0) (C : RoadKit.Fld Z h x ST "coder" "B" c0) (K : RoadKit.Arv Z h b k .char zn (cs.map Value.int) dv) (S : RoadKit.Sta Z h ST "COMPACT_STRINGS" "Z" (.int z)) (hz : ¬ z = 0)
    (hlen : zn.toNatClampNeg = cs.length) (h0 : 0 < cs.length) (hbig : cs.length ≤ 536870912) (hall : ∀ c ∈ cs, ¬ 255 < c) (hfr : 4 ≤ R.frames) (hlo : W + 65 ≤ R.locals) :
    Back l R p e below s args New1.yN len W (fun P a => a = #[.ref x, .ref b] ∧ P.U.heap = h ∧ P.cells + 1 ≤ R.cells ∧ P.slots + cs.length ≤ R.slots)
      (fun P _ v B => ∃ L, QA Z x zn cs h v B.U.heap L ∧ B.locs = P.locs ++ L ∧ B.cells = P.cells + 1 ∧ B.slots = P.slots + cs.length) := by
  obtain ⟨A, K1, K2, K3, K4, K5, K6⟩ := K
  have e : A.slots.size = cs.length := K3.trans hlen
  have hat : ∀ (i : Nat) (hi : i < cs.length), A.slots[i]? = some (.int cs[i]) := fun i hi => by rw [K5 i (by omega)]; simp [List.getD_eq_getElem?_getD, hi]
  have hcv : ∀ (i : Nat) (hi : i < cs.length), cv A i = cs[i] := fun i hi => by unfold cv; rw [hat i hi]
  have hty : Typed .char A := fun i v hv => by
    have hi : i < A.slots.size := (Array.getElem?_eq_some_iff.mp hv).1
    have q := K5 i hi
    rw [hv] at q
    rw [Option.some.inj q]
    exact K6 i hi
  refine Back.mono (back hZ hw wi E V C K1 hty S hz (by omega) (by omega) (fun i hi => by rw [hcv i (by omega)]; exact hall _ (List.getElem_mem _)) hfr hlo) (fun P a hp => ⟨hp.1, hp.2.1, hp.2.2.1, by rw [e]; exact hp.2.2.2⟩) (fun P a v B hp hq => ?_)
  obtain ⟨L, ⟨q1, q2, q3, q4, q5, q6, q7, ⟨V', v1, v2, v3, v4, v5⟩, q9⟩, hl, hc, hs⟩ := hq
  refine ⟨L, ⟨q1, q2, q3, q4, q5, q6, q7, ⟨V'.cls, v3, V', v1, rfl, by rw [v4, e, hlen], K4, fun i hi => ?_, fun i hi => ?_⟩, q9⟩, hl, hc, by rw [hs, e]⟩
  · have hi' : i < cs.length := by omega
    rw [v5 i (by omega), hcv i hi']; simp [List.getD_eq_getElem?_getD, hi']
  · have hi' : i < cs.length := by omega
    simp only [List.getD_eq_getElem?_getD, List.getElem?_map, List.getElem?_eq_getElem hi', Option.map_some, Option.getD_some]
    exact fits_lo8 _
end StrChars.Road
namespace StrChars.Road
open Jvm Sem ClassFile Op Lib Jvm.Stand Jvm.Free Jvm.Free.XT
/-- WHAT COMES BACK, in the writer's own shape -/
def QV (Z : State) (x : Addr) (N : Int32) (bs : List Int32) (h : Heap) (n0 : Nat) (v : Option Value) (h' : Heap) (L : List Loc) : Prop := v = none ∧ RoadKit.Fr n0 L ∧ RoadKit.Keep h h' [x] ∧ RoadKit.Exa Z h' x ST ∧ RoadKit.Fld Z h' x ST "coder" "B" (.int 0) ∧
  ∃ (t : Addr) (kb : ClassId), n0 ≤ t ∧ h.size ≤ t ∧ ¬ t = x ∧ RoadKit.Fld Z h' x ST "value" "[B" (.ref t) ∧ RoadKit.Arv Z h' t kb .byte N (bs.map Value.int) (.int 0)
/-- **new String(chars) AT A CALL, FOR THE WRITER**: a char[] of n known ints, each 0 to 255 -/
theorem backV {p : Program} {l : Launch} {e : Env} {R : Room} {s : State} {args : Array Value} {below : List Frame} {len W : Nat} {Z : State} {a0 : Array Value} {h : Heap} (hZ : Z.Warmed39 s.vm) (hw : ∀ d ∈ words, d.before a0 Z = true) {kI : Nat} (wi : (Jvm.Cond.instantiable ST kI).before a0 Z = true)
    {x b : Addr} {kC : ClassId} {cs bs : List Int32} {d v0 c0 : Value} {z N : Int32} {n n0 : Nat} (hx0 : n0 ≤ x) (hh0 : n0 ≤ h.size) (E : RoadKit.Exa Z h x ST) (V : RoadKit.Fld Z h x ST "value" "[B" v0) (C : RoadKit.Fld Z h x ST "coder" "B" c0) (K : RoadKit.Arv Z h b kC .char N (cs.map Value.int) d) (S : RoadKit.Sta Z h ST "COMPACT_STRINGS" "Z" (.int z)) (hz : ¬ z = 0)
    (hn : cs.length = n) (hN : N = Int32.ofNat n) (l0 : 0 < n) (l2 : n ≤ 4000) (hp : ∀ c ∈ cs, ¬ c < 0 ∧ ¬ (255 : Int32) < c) (hb : bs = cs.map (fun c => c.toInt8.toInt32)) (hfr : 4 ≤ R.frames) (hlo : W + 65 ≤ R.locals) :
    Back l R p e below s args (⟨"java/lang/String", "<init>", "([C)V"⟩ : MethodName) len W (fun P a => a = #[.ref x, .ref b] ∧ P.U.heap = h ∧ P.cells + 1 ≤ R.cells ∧ P.slots + n ≤ R.slots)
      (fun P _ v B => ∃ L, QV Z x N bs h n0 v B.U.heap L ∧ B.locs = P.locs ++ L ∧ B.cells = P.cells + 1 ∧ B.slots = P.slots + n) := by
  subst hn hN hb
  refine Back.mono (backArv hZ hw wi E V C K S hz (n32 (by omega)) l0 (by omega) (fun c hc => (hp c hc).2) hfr hlo) (fun P a hp => hp) (fun P a v B hp hq => ?_)
  obtain ⟨L, ⟨q1, q2, q3, q4, q5, q6, q7, ⟨kb, v1, v2⟩, q9⟩, hl, hc, hs⟩ := hq
  exact ⟨L, ⟨q1, fun y hy => by rw [q2 y hy]; exact hx0, q3, q5, q7, h.size, kb, hh0, Nat.le_refl _, Nat.ne_of_gt E.lt, q6, by rw [List.map_map]; exact v2⟩, hl, hc, hs⟩
end StrChars.Road
end Jvm.Pilot.@@N@@

namespace Jvm.Pilot.@@N@@
open Jvm Jvm.ClassFile Sem Op Lib Jvm.Free Jvm.Stand Jvm.LawKit Jvm.RoadKit Bundle Jvm.Pilot.@@N@@.Jvm.D
abbrev own_At (p : Program) (e : Env) (below : List Frame) (m : MethodId) (T : State) (pc : Nat) (ls : Array Slot) (st : List Value) (t : State) : Prop := Steps p.tables e below (T.setTop (mkF m pc ls st)) t
abbrev own_En (p : Program) (e : Env) (below : List Frame) (m : MethodId) (T : State) (a : Array Value) (n : Nat) (t : State) : Prop := Steps p.tables e below (T.setTop (entryFrame m a n)) t
theorem own_w {a0 : Array Value} {Z : State} (hw : ∀ d ∈ tables_1, d.before a0 Z = true) (i : Nat) {d : Jvm.Cond} (h : tables_1[i]? = some d) : d.before a0 Z = true := hw d (List.mem_of_getElem? h)
theorem own_eqI {t : Term} {k : Int32} {args : Array Value} {s : State} (h : (Jvm.Cond.eq t (.int k)).value args s none s [] = some true) : t.eval args s none [] s = some (.int k) := by
  have e : (Term.int k).eval args s none [] s = some (.int k) := rfl
  simp only [Cond.value, e] at h
  cases ht : t.eval args s none [] s with
  | none => simp [ht] at h
  | some x => cases x <;> simp [ht] at h ⊢; exact h
theorem own_neI {t : Term} {k z : Int32} {args : Array Value} {s : State} (e : t.eval args s none [] s = some (.int z)) (h : (Jvm.Cond.not (Jvm.Cond.eq t (.int k))).value args s none s [] = some true) : ¬ (z = k) := by
  have q := not_v h
  have e2 : (Term.int k).eval args s none [] s = some (.int k) := rfl
  simp only [Cond.value, e, e2, Bool.not_true, Option.some.injEq, decide_eq_false_iff_not] at q
  exact q
theorem own_neR {t u : Term} {a b : Addr} {args : Array Value} {s : State} (ea : t.eval args s none [] s = some (.ref a)) (eb : u.eval args s none [] s = some (.ref b)) (h : (Jvm.Cond.not (Jvm.Cond.eq t u)).value args s none s [] = some true) : ¬ (a = b) := by
  have q := not_v h
  rw [eq_R ea eb rfl rfl] at q
  intro e
  rw [e] at q
  simp at q
theorem own_eqJ {t : Term} {k : Int64} {args : Array Value} {s : State} (h : (Jvm.Cond.eq t (.long k)).value args s none s [] = some true) : t.eval args s none [] s = some (.long k) := by
  have e : (Term.long k).eval args s none [] s = some (.long k) := rfl
  simp only [Cond.value, e] at h
  cases ht : t.eval args s none [] s with
  | none => simp [ht] at h
  | some x => cases x <;> simp [ht] at h ⊢; exact h
theorem own_len {t : Term} {n : Int32} {a : Addr} {cl : Cell} {ty : FieldType} {args : Array Value} {s : State} (ev : t.eval args s none [] s = some (.ref a)) (A : Arr s s.heap a cl ty) (h : (Jvm.Cond.eq (.length t) (.int n)).value args s none s [] = some true) : cl.slots.size < 2 ^ 31 ∧ cl.slots.size.toInt32 = n := by
  have q := own_eqI h
  have hA := A.fin (Vm.Alike.refl _)
  simp only [Term.eval, ev, hA, Option.bind_eq_bind, Option.bind_some] at q
  split at q
  · rename_i hl
    exact ⟨hl, Value.int.inj (Option.some.inj q)⟩
  · cases q
theorem own_elem {t u : Term} {j : Int32} {a : Addr} {v : Value} {cl : Cell} {ty : FieldType} {args : Array Value} {s : State} (ev : t.eval args s none [] s = some (.ref a)) (A : Arr s s.heap a cl ty) (h : (Term.elem t (.int j)).eval args s none [] s = some v) (i : Nat) (hi : j.toNatClampNeg = i) : cl.slots[i]? = some v := by
  have q := (elem_in h ev (rfl : (Term.int j).eval args s none [] s = some (.int j)) A.1).2
  rw [hi] at q; exact q
/-- an array as it stood at the start, that may be cloned -/
def own_Cln (Z : State) (h : Heap) (a : Addr) (ty : FieldType) (n : Int32) (vs : List Value) (d : Value) : Prop := ∃ c : Cell, Arr Z h a c ty ∧ FitC Z c ∧ c.slots.size = n.toNatClampNeg ∧ ¬ n < 0 ∧ Has c vs d ∧ ∀ i, i < c.slots.size → fits ty (vs.getD i d) = true
theorem own_Cln.ext {Z : State} {h h' : Heap} {a : Addr} {ty : FieldType} {n : Int32} {vs : List Value} {d : Value} (F : own_Cln Z h a ty n vs d) (E : Ext h h') : own_Cln Z h' a ty n vs d := by
  obtain ⟨c, A, r⟩ := F; exact ⟨c, A.ext E, r⟩
theorem own_Cln.start {Z : State} {a : Addr} {cl : Cell} {ty : FieldType} {z : Int32} {vs : List Value} {dv : Value} (hf : Fit Z) (A : Arr Z Z.heap a cl ty) (q : cl.slots.size < 2 ^ 31 ∧ cl.slots.size.toInt32 = z) (hz : ¬ z < 0) (hl : z.toNatClampNeg = vs.length) (H : HasL cl 0 vs) : own_Cln Z Z.heap a ty z vs dv := by
  have S : cl.slots.size = z.toNatClampNeg := by rw [← q.2]; simp only [Int32.toNatClampNeg, len_toInt q.1]; rfl
  have H' : Has cl vs dv := fun j hj => by have := HasL.at (dv := dv) vs 0 H j (by rw [← hl, ← S]; exact hj); rwa [Nat.zero_add] at this
  refine ⟨cl, A, FitC.start hf A, S, hz, H', fun j hj => ?_⟩
  have e1 : (Nat.toInt32 j).toNatClampNeg = j := by simp only [Int32.toNatClampNeg, len_toInt (Nat.lt_trans hj q.1)]; rfl
  exact elem_fits (j := Nat.toInt32 j) hf A (idx_in hj q.1) (by rw [e1]; exact H' j hj)
theorem own_Cln.arv {Z : State} {h : Heap} {a : Addr} {ty : FieldType} {n : Int32} {vs : List Value} {d : Value} (F : own_Cln Z h a ty n vs d) : ∃ k, Arv Z h a k ty n vs d := by
  obtain ⟨c, A, -, r⟩ := F; exact ⟨c.cls, c, A, rfl, r⟩
theorem own_eqR {t u : Term} {b : Addr} {args : Array Value} {s : State} (h : (Jvm.Cond.eq t u).value args s none s [] = some true) (e : u.eval args s none [] s = some (.ref b)) : t.eval args s none [] s = some (.ref b) := by
  simp only [Cond.value, e] at h
  cases ht : t.eval args s none [] s with
  | none => simp [ht] at h
  | some x => cases x <;> simp [ht] at h ⊢; exact h
def EV (Z : State) (a_IDENTIFIER : Addr) (a_SYMBOL : Addr) (a_DIRECTIVE : Addr) (a_END : Addr) (a_FILE_START : Addr) (a_FILE_END : Addr) (a_NUMBER : Addr) (a_LITERAL : Addr) (a_PRAGMA_PREFIX : Addr) (z_COMPACT_STRINGS : Int32) (r_SIOOBE_FORMATTER : Value) : Prop := Sta Z Z.heap "com/example/gate3/gate3/io/Token$Kind" "IDENTIFIER" "Lcom/example/gate3/gate3/io/Token$Kind;" (.ref a_IDENTIFIER) ∧ Exa Z Z.heap a_IDENTIFIER "com/example/gate3/gate3/io/Token$Kind" ∧ Sta Z Z.heap "com/example/gate3/gate3/io/Token$Kind" "SYMBOL" "Lcom/example/gate3/gate3/io/Token$Kind;" (.ref a_SYMBOL) ∧ Exa Z Z.heap a_SYMBOL "com/example/gate3/gate3/io/Token$Kind" ∧ Fld Z Z.heap a_SYMBOL "java/lang/Enum" "ordinal" "I" (.int (3 : Int32)) ∧ Fld Z Z.heap a_IDENTIFIER "java/lang/Enum" "ordinal" "I" (.int (0 : Int32)) ∧ Sta Z Z.heap "com/example/gate3/gate3/io/Token$Kind" "DIRECTIVE" "Lcom/example/gate3/gate3/io/Token$Kind;" (.ref a_DIRECTIVE) ∧ Exa Z Z.heap a_DIRECTIVE "com/example/gate3/gate3/io/Token$Kind" ∧ Fld Z Z.heap a_DIRECTIVE "java/lang/Enum" "ordinal" "I" (.int (8 : Int32)) ∧ Sta Z Z.heap "com/example/gate3/gate3/io/Token$Kind" "END" "Lcom/example/gate3/gate3/io/Token$Kind;" (.ref a_END) ∧ Exa Z Z.heap a_END "com/example/gate3/gate3/io/Token$Kind" ∧ Fld Z Z.heap a_END "java/lang/Enum" "ordinal" "I" (.int (4 : Int32)) ∧ Sta Z Z.heap "com/example/gate3/gate3/io/Token$Kind" "FILE_START" "Lcom/example/gate3/gate3/io/Token$Kind;" (.ref a_FILE_START) ∧ Exa Z Z.heap a_FILE_START "com/example/gate3/gate3/io/Token$Kind" ∧ Fld Z Z.heap a_FILE_START "java/lang/Enum" "ordinal" "I" (.int (6 : Int32)) ∧ Sta Z Z.heap "com/example/gate3/gate3/io/Token$Kind" "FILE_END" "Lcom/example/gate3/gate3/io/Token$Kind;" (.ref a_FILE_END) ∧ Exa Z Z.heap a_FILE_END "com/example/gate3/gate3/io/Token$Kind" ∧ Fld Z Z.heap a_FILE_END "java/lang/Enum" "ordinal" "I" (.int (7 : Int32)) ∧ Sta Z Z.heap "com/example/gate3/gate3/io/Token$Kind" "NUMBER" "Lcom/example/gate3/gate3/io/Token$Kind;" (.ref a_NUMBER) ∧ Exa Z Z.heap a_NUMBER "com/example/gate3/gate3/io/Token$Kind" ∧ Fld Z Z.heap a_NUMBER "java/lang/Enum" "ordinal" "I" (.int (1 : Int32)) ∧ Sta Z Z.heap "com/example/gate3/gate3/io/Token$Kind" "LITERAL" "Lcom/example/gate3/gate3/io/Token$Kind;" (.ref a_LITERAL) ∧ Exa Z Z.heap a_LITERAL "com/example/gate3/gate3/io/Token$Kind" ∧ Fld Z Z.heap a_LITERAL "java/lang/Enum" "ordinal" "I" (.int (2 : Int32)) ∧ Sta Z Z.heap "com/example/gate3/gate3/io/Token$Kind" "PRAGMA_PREFIX" "Lcom/example/gate3/gate3/io/Token$Kind;" (.ref a_PRAGMA_PREFIX) ∧ Exa Z Z.heap a_PRAGMA_PREFIX "com/example/gate3/gate3/io/Token$Kind" ∧ Fld Z Z.heap a_PRAGMA_PREFIX "java/lang/Enum" "ordinal" "I" (.int (5 : Int32)) ∧ Sta Z Z.heap "java/lang/String" "COMPACT_STRINGS" "Z" (.int z_COMPACT_STRINGS) ∧ ¬ (z_COMPACT_STRINGS = (0 : Int32)) ∧ Sta Z Z.heap "jdk/internal/util/Preconditions" "SIOOBE_FORMATTER" "Ljava/util/function/BiFunction;" r_SIOOBE_FORMATTER ∧ r_SIOOBE_FORMATTER.isRef = true
theorem own_hws {Z : State} {a0 : Array Value} (hw : ∀ d ∈ tables_1, d.before a0 Z = true) : ∀ d ∈ StrChars.Road.words, d.before a0 Z = true := fun d hd => hw d ((by decide +kernel : ∀ d ∈ StrChars.Road.words, d ∈ tables_1) d hd)
theorem own_and255 (x : Int32) : ¬ ((x &&& (255 : Int32)).toUInt32.toUInt16.toUInt32.toInt32) < 0 ∧ ¬ (255 : Int32) < ((x &&& (255 : Int32)).toUInt32.toUInt16.toUInt32.toInt32) := by
  rw [i2c_mask]
  have e := c_mask x (255 : Int32) 8 (by decide) (by decide)
  have e0 : (0 : Int32).toInt = 0 := by decide
  have e1 : (255 : Int32).toInt = 255 := by decide
  constructor
  · rw [Int32.lt_iff_toInt_lt, e, e0]; omega
  · rw [Int32.lt_iff_toInt_lt, e, e1]; omega
theorem own_narc (x : Int32) : nar .char ((x &&& (255 : Int32)).toUInt32.toUInt16.toUInt32.toInt32) = (x &&& (255 : Int32)).toUInt32.toUInt16.toUInt32.toInt32 := by
  show ((x &&& (255 : Int32)).toUInt32.toUInt16.toUInt32.toInt32).toUInt32.toUInt16.toUInt32.toInt32 = _
  rw [i2c_mask, i2c_mask]
theorem ef_ka (m : MethodId) (x0 : Int32)  : entryFrame m #[(.int x0)] 1 = mkF m 0 #[.val (.int x0)] [] := by first | (simp [entryFrame, mkF, argsToLocals, Value.category]; done) | rfl
theorem d_method_2_code_0 : decode method_2_code 0 = .ok (.iload_n 0, 1) := by decide +kernel
theorem d_method_2_code_1 : decode method_2_code 1 = .ok (.ifCond .ne 7, 3) := by decide +kernel
theorem d_method_2_code_8 : decode method_2_code 8 = .ok (.iload_n 0, 1) := by decide +kernel
theorem d_method_2_code_9 : decode method_2_code 9 = .ok (.iconst 1, 1) := by decide +kernel
theorem d_method_2_code_10 : decode method_2_code 10 = .ok (.if_icmp .ne 7, 3) := by decide +kernel
theorem d_method_2_code_13 : decode method_2_code 13 = .ok (.getstatic 13, 3) := by decide +kernel
theorem d_method_2_code_16 : decode method_2_code 16 = .ok (.areturn, 1) := by decide +kernel
theorem d_method_2_code_17 : decode method_2_code 17 = .ok (.iload_n 0, 1) := by decide +kernel
theorem d_method_2_code_18 : decode method_2_code 18 = .ok (.iconst 2, 1) := by decide +kernel
theorem d_method_2_code_19 : decode method_2_code 19 = .ok (.if_icmp .ne 7, 3) := by decide +kernel
theorem d_method_2_code_22 : decode method_2_code 22 = .ok (.getstatic 16, 3) := by decide +kernel
theorem d_method_2_code_25 : decode method_2_code 25 = .ok (.areturn, 1) := by decide +kernel
theorem d_method_2_code_26 : decode method_2_code 26 = .ok (.iload_n 0, 1) := by decide +kernel
theorem d_method_2_code_27 : decode method_2_code 27 = .ok (.iconst 3, 1) := by decide +kernel
theorem d_method_2_code_28 : decode method_2_code 28 = .ok (.if_icmp .ne 7, 3) := by decide +kernel
theorem d_method_2_code_31 : decode method_2_code 31 = .ok (.getstatic 19, 3) := by decide +kernel
theorem d_method_2_code_34 : decode method_2_code 34 = .ok (.areturn, 1) := by decide +kernel
theorem d_method_2_code_35 : decode method_2_code 35 = .ok (.iload_n 0, 1) := by decide +kernel
theorem d_method_2_code_36 : decode method_2_code 36 = .ok (.iconst 4, 1) := by decide +kernel
theorem d_method_2_code_37 : decode method_2_code 37 = .ok (.if_icmp .ne 7, 3) := by decide +kernel
theorem d_method_2_code_40 : decode method_2_code 40 = .ok (.getstatic 22, 3) := by decide +kernel
theorem d_method_2_code_43 : decode method_2_code 43 = .ok (.areturn, 1) := by decide +kernel
theorem d_method_2_code_44 : decode method_2_code 44 = .ok (.iload_n 0, 1) := by decide +kernel
theorem d_method_2_code_45 : decode method_2_code 45 = .ok (.iconst 5, 1) := by decide +kernel
theorem d_method_2_code_46 : decode method_2_code 46 = .ok (.if_icmp .ne 7, 3) := by decide +kernel
theorem d_method_2_code_49 : decode method_2_code 49 = .ok (.getstatic 25, 3) := by decide +kernel
theorem d_method_2_code_52 : decode method_2_code 52 = .ok (.areturn, 1) := by decide +kernel
theorem d_method_2_code_53 : decode method_2_code 53 = .ok (.iload_n 0, 1) := by decide +kernel
theorem d_method_2_code_54 : decode method_2_code 54 = .ok (.bipush 6, 2) := by decide +kernel
theorem d_method_2_code_56 : decode method_2_code 56 = .ok (.if_icmp .ne 7, 3) := by decide +kernel
theorem d_method_2_code_59 : decode method_2_code 59 = .ok (.getstatic 28, 3) := by decide +kernel
theorem d_method_2_code_62 : decode method_2_code 62 = .ok (.areturn, 1) := by decide +kernel
theorem d_method_2_code_63 : decode method_2_code 63 = .ok (.iload_n 0, 1) := by decide +kernel
theorem d_method_2_code_64 : decode method_2_code 64 = .ok (.bipush 7, 2) := by decide +kernel
theorem d_method_2_code_66 : decode method_2_code 66 = .ok (.if_icmp .ne 7, 3) := by decide +kernel
theorem d_method_2_code_69 : decode method_2_code 69 = .ok (.getstatic 31, 3) := by decide +kernel
theorem d_method_2_code_72 : decode method_2_code 72 = .ok (.areturn, 1) := by decide +kernel
theorem d_method_2_code_73 : decode method_2_code 73 = .ok (.getstatic 34, 3) := by decide +kernel
theorem d_method_2_code_76 : decode method_2_code 76 = .ok (.areturn, 1) := by decide +kernel
theorem pn_com_example_gate3_gate3_io_TokenIsIdentifierPinLaw : plainName "com/example/gate3/gate3/io/TokenIsIdentifierPinLaw" = true := by first | (simp [plainName, overriddenIn]; done) | decide +kernel
abbrev own_m0 : MethodName := ⟨"com/example/gate3/gate3/io/TokenIsIdentifierPinLaw", "kindAt", "(I)Lcom/example/gate3/gate3/io/Token$Kind;"⟩
def Q_ka (Z : State) (p0 : Int32) (a_IDENTIFIER : Addr) (a_SYMBOL : Addr) (a_DIRECTIVE : Addr) (a_END : Addr) (a_FILE_START : Addr) (a_FILE_END : Addr) (a_NUMBER : Addr) (a_LITERAL : Addr) (a_PRAGMA_PREFIX : Addr) (z_COMPACT_STRINGS : Int32) (r_SIOOBE_FORMATTER : Value) (h0 : Heap) (n0 : Nat) (v : Option Value) (h : Heap) (L : List Loc) : Prop := ∃ a : Addr, v = some (.ref a) ∧ Fr n0 L ∧ h = h0 ∧ ¬ (a = a_IDENTIFIER)
set_option maxRecDepth 65536 in
set_option maxHeartbeats 40000000 in
theorem rm_ka (l : Launch) (Z : State) (a0 : Array Value) (hw : ∀ d ∈ tables_1, d.before a0 Z = true) (ws : List Jvm.Cond) (p0 : Int32) (a_IDENTIFIER : Addr) (a_SYMBOL : Addr) (a_DIRECTIVE : Addr) (a_END : Addr) (a_FILE_START : Addr) (a_FILE_END : Addr) (a_NUMBER : Addr) (a_LITERAL : Addr) (a_PRAGMA_PREFIX : Addr) (z_COMPACT_STRINGS : Int32) (r_SIOOBE_FORMATTER : Value) (h0 : Heap) (n0 : Nat) (O0 : Old Z n0 h0) (hE : EV Z a_IDENTIFIER a_SYMBOL a_DIRECTIVE a_END a_FILE_START a_FILE_END a_NUMBER a_LITERAL a_PRAGMA_PREFIX z_COMPACT_STRINGS r_SIOOBE_FORMATTER) (hz : ¬ (p0 = (0 : Int32))) :
    MetFree l own_m0 (head1 (Jvm.Cond.code own_m0 method_2_code 1 (some (.object "com/example/gate3/gate3/io/Token$Kind")) :: ws) ({ frames := 0, cells := 0, slots := 0, locals := 0 } : Room)) (fun a U => a = #[(.int p0)] ∧ Z.Warmed39 U.vm ∧ U.heap = h0) (fun _ _ _ _ _ => True) (fun _ U o U' => ∃ v L, o = .returned v ∧ Q_ka Z p0 a_IDENTIFIER a_SYMBOL a_DIRECTIVE a_END a_FILE_START a_FILE_END a_NUMBER a_LITERAL a_PRAGMA_PREFIX z_COMPACT_STRINGS r_SIOOBE_FORMATTER h0 n0 v U'.heap L ∧ FrameEnd U o U' L ({ frames := 0, cells := 0, slots := 0, locals := 0 } : Room).cells ({ frames := 0, cells := 0, slots := 0, locals := 0 } : Room).slots) := by
  refine MetFree.of_bodySF (plainFor_of_name pn_com_example_gate3_gate3_io_TokenIsIdentifierPinLaw) hisR ?_
  intro p e s m args below meth c s₁ Bd hml0 hP hK
  obtain ⟨rfl, hZ, hh⟩ := hP
  have hx := Bd.exec
  have hby := Bd.bytes
  have hml : c.maxLocals = 1 := hml0
  have hown : s.vm.findClass "com/example/gate3/gate3/io/TokenIsIdentifierPinLaw" = some m.cls := findClass_of_methodNamed Bd.named
  have hnm := (name_of_methodNamed Bd.named Bd.method).1
  have X0 : Stand p l e ({ frames := 0, cells := 0, slots := 0, locals := 0 } : Room) s m #[(.int p0)] below meth c s₁ [] 0 0 := Stand.of_body Bd
  have e0 : s₁.heap = h0 := by rw [← hh, Bd.state]; rfl
  have N0 := Fr.nil n0
  refine Classical.byContradiction fun hNG => ?_
  have K0 := Keep.refl h0 []
  have k0 : ∀ t, own_At p e below m s₁ 0 #[.val (.int p0)] [] t → own_En p e below m s₁ #[(.int p0)] 1 t := fun t k => castTop (ef_ka m p0 ) k
  obtain ⟨S_IDENTIFIER, E_IDENTIFIER, S_SYMBOL, E_SYMBOL, F_SYMBOL_ordinal, F_IDENTIFIER_ordinal, S_DIRECTIVE, E_DIRECTIVE, F_DIRECTIVE_ordinal, S_END, E_END, F_END_ordinal, S_FILE_START, E_FILE_START, F_FILE_START_ordinal, S_FILE_END, E_FILE_END, F_FILE_END_ordinal, S_NUMBER, E_NUMBER, F_NUMBER_ordinal, S_LITERAL, E_LITERAL, F_LITERAL_ordinal, S_PRAGMA_PREFIX, E_PRAGMA_PREFIX, F_PRAGMA_PREFIX_ordinal, S_COMPACT_STRINGS, nz_COMPACT_STRINGS, S_SIOOBE_FORMATTER, iS_SIOOBE_FORMATTER⟩ := (id hE : EV Z a_IDENTIFIER a_SYMBOL a_DIRECTIVE a_END a_FILE_START a_FILE_END a_NUMBER a_LITERAL a_PRAGMA_PREFIX z_COMPACT_STRINGS r_SIOOBE_FORMATTER)
  have k1 : ∀ t, own_At p e below m s₁ 10 #[.val (.int p0)] [(.int (1 : Int32)), (.int p0)] t → own_En p e below m s₁ #[(.int p0)] 1 t := by
    intro t k
    refine k0 t ?_
    refine XS.iloadN X0.here hx rfl (hb hby d_method_2_code_0) rfl ?_
    show own_At p e below m s₁ 1 #[.val (.int p0)] [(.int p0)] t
    refine XS.ifYes X0.here hx rfl (pc0 := 1) (pc' := 8) rfl (hb hby d_method_2_code_1) rfl ((if0 _ _).trans (feq hz).2) (by decide) (by decide) ?_
    show own_At p e below m s₁ 8 #[.val (.int p0)] [] t
    refine XS.iloadN X0.here hx rfl (hb hby d_method_2_code_8) rfl ?_
    show own_At p e below m s₁ 9 #[.val (.int p0)] [(.int p0)] t
    refine XS.iconst X0.here hx rfl (hb hby d_method_2_code_9) ?_
    show own_At p e below m s₁ 10 #[.val (.int p0)] [(.int (1 : Int32)), (.int p0)] t
    exact k
  by_cases hc2 : p0 = (1 : Int32)
  · obtain ⟨T3, X3, e3, st3⟩ := getS2 X0 hx hZ hown (host := "") (Or.inl (own_w hw 98 rfl)) Via.refl e0 (S_NUMBER.ext O0.2) (g := (mkF m 13 #[.val (.int p0)] [])) rfl (hb hby d_method_2_code_13)
    have k4 : ∀ t, own_At p e below m T3 16 #[.val (.int p0)] [(.ref a_NUMBER)] t → own_En p e below m s₁ #[(.int p0)] 1 t := by
      intro t k
      refine k1 t ?_
      refine XS.icmpNo X0.here hx rfl (hb hby d_method_2_code_10) rfl (teq hc2).2 ?_
      show own_At p e below m s₁ 13 #[.val (.int p0)] [] t
      refine st3 _ ?_
      show own_At p e below m T3 16 #[.val (.int p0)] [(.ref a_NUMBER)] t
      exact k
    obtain ⟨fs, hr, hrun, hended, hW, hsame⟩ := X3.leave (v := some (.ref a_NUMBER)) (fun h => by rw [Bd.returns] at h; cases h)
    refine hNG ⟨_, _, k4 _ ?_, hrun, hended, _, _, rfl, ?_, ⟨_, rfl⟩, hW, hsame.mono (by decide) (by decide)⟩
    · exact retOut X3 hx (t := (.object "com/example/gate3/gate3/io/Token$Kind")) Bd.returns rfl (Or.inr (Or.inr (Or.inr (Or.inr ⟨rfl, rfl, rfl⟩)))) (hb hby d_method_2_code_16) hr
    · show Q_ka Z p0 a_IDENTIFIER a_SYMBOL a_DIRECTIVE a_END a_FILE_START a_FILE_END a_NUMBER a_LITERAL a_PRAGMA_PREFIX z_COMPACT_STRINGS r_SIOOBE_FORMATTER h0 n0 _ T3.heap _
      rw [e3]
      exact ⟨a_NUMBER, rfl, N0, rfl, (F_NUMBER_ordinal.ne F_IDENTIFIER_ordinal (fun q => absurd (Value.int.inj q) (by decide)))⟩
  · have k5 : ∀ t, own_At p e below m s₁ 19 #[.val (.int p0)] [(.int (2 : Int32)), (.int p0)] t → own_En p e below m s₁ #[(.int p0)] 1 t := by
      intro t k
      refine k1 t ?_
      refine XS.icmpYes X0.here hx rfl (pc0 := 10) (pc' := 17) rfl (hb hby d_method_2_code_10) rfl (feq hc2).2 (by decide) (by decide) ?_
      show own_At p e below m s₁ 17 #[.val (.int p0)] [] t
      refine XS.iloadN X0.here hx rfl (hb hby d_method_2_code_17) rfl ?_
      show own_At p e below m s₁ 18 #[.val (.int p0)] [(.int p0)] t
      refine XS.iconst X0.here hx rfl (hb hby d_method_2_code_18) ?_
      show own_At p e below m s₁ 19 #[.val (.int p0)] [(.int (2 : Int32)), (.int p0)] t
      exact k
    by_cases hc6 : p0 = (2 : Int32)
    · obtain ⟨T7, X7, e7, st7⟩ := getS2 X0 hx hZ hown (host := "") (Or.inl (own_w hw 100 rfl)) Via.refl e0 (S_LITERAL.ext O0.2) (g := (mkF m 22 #[.val (.int p0)] [])) rfl (hb hby d_method_2_code_22)
      have k8 : ∀ t, own_At p e below m T7 25 #[.val (.int p0)] [(.ref a_LITERAL)] t → own_En p e below m s₁ #[(.int p0)] 1 t := by
        intro t k
        refine k5 t ?_
        refine XS.icmpNo X0.here hx rfl (hb hby d_method_2_code_19) rfl (teq hc6).2 ?_
        show own_At p e below m s₁ 22 #[.val (.int p0)] [] t
        refine st7 _ ?_
        show own_At p e below m T7 25 #[.val (.int p0)] [(.ref a_LITERAL)] t
        exact k
      obtain ⟨fs, hr, hrun, hended, hW, hsame⟩ := X7.leave (v := some (.ref a_LITERAL)) (fun h => by rw [Bd.returns] at h; cases h)
      refine hNG ⟨_, _, k8 _ ?_, hrun, hended, _, _, rfl, ?_, ⟨_, rfl⟩, hW, hsame.mono (by decide) (by decide)⟩
      · exact retOut X7 hx (t := (.object "com/example/gate3/gate3/io/Token$Kind")) Bd.returns rfl (Or.inr (Or.inr (Or.inr (Or.inr ⟨rfl, rfl, rfl⟩)))) (hb hby d_method_2_code_25) hr
      · show Q_ka Z p0 a_IDENTIFIER a_SYMBOL a_DIRECTIVE a_END a_FILE_START a_FILE_END a_NUMBER a_LITERAL a_PRAGMA_PREFIX z_COMPACT_STRINGS r_SIOOBE_FORMATTER h0 n0 _ T7.heap _
        rw [e7]
        exact ⟨a_LITERAL, rfl, N0, rfl, (F_LITERAL_ordinal.ne F_IDENTIFIER_ordinal (fun q => absurd (Value.int.inj q) (by decide)))⟩
    · have k9 : ∀ t, own_At p e below m s₁ 28 #[.val (.int p0)] [(.int (3 : Int32)), (.int p0)] t → own_En p e below m s₁ #[(.int p0)] 1 t := by
        intro t k
        refine k5 t ?_
        refine XS.icmpYes X0.here hx rfl (pc0 := 19) (pc' := 26) rfl (hb hby d_method_2_code_19) rfl (feq hc6).2 (by decide) (by decide) ?_
        show own_At p e below m s₁ 26 #[.val (.int p0)] [] t
        refine XS.iloadN X0.here hx rfl (hb hby d_method_2_code_26) rfl ?_
        show own_At p e below m s₁ 27 #[.val (.int p0)] [(.int p0)] t
        refine XS.iconst X0.here hx rfl (hb hby d_method_2_code_27) ?_
        show own_At p e below m s₁ 28 #[.val (.int p0)] [(.int (3 : Int32)), (.int p0)] t
        exact k
      by_cases hc10 : p0 = (3 : Int32)
      · obtain ⟨T11, X11, e11, st11⟩ := getS2 X0 hx hZ hown (host := "") (Or.inl (own_w hw 88 rfl)) Via.refl e0 (S_SYMBOL.ext O0.2) (g := (mkF m 31 #[.val (.int p0)] [])) rfl (hb hby d_method_2_code_31)
        have k12 : ∀ t, own_At p e below m T11 34 #[.val (.int p0)] [(.ref a_SYMBOL)] t → own_En p e below m s₁ #[(.int p0)] 1 t := by
          intro t k
          refine k9 t ?_
          refine XS.icmpNo X0.here hx rfl (hb hby d_method_2_code_28) rfl (teq hc10).2 ?_
          show own_At p e below m s₁ 31 #[.val (.int p0)] [] t
          refine st11 _ ?_
          show own_At p e below m T11 34 #[.val (.int p0)] [(.ref a_SYMBOL)] t
          exact k
        obtain ⟨fs, hr, hrun, hended, hW, hsame⟩ := X11.leave (v := some (.ref a_SYMBOL)) (fun h => by rw [Bd.returns] at h; cases h)
        refine hNG ⟨_, _, k12 _ ?_, hrun, hended, _, _, rfl, ?_, ⟨_, rfl⟩, hW, hsame.mono (by decide) (by decide)⟩
        · exact retOut X11 hx (t := (.object "com/example/gate3/gate3/io/Token$Kind")) Bd.returns rfl (Or.inr (Or.inr (Or.inr (Or.inr ⟨rfl, rfl, rfl⟩)))) (hb hby d_method_2_code_34) hr
        · show Q_ka Z p0 a_IDENTIFIER a_SYMBOL a_DIRECTIVE a_END a_FILE_START a_FILE_END a_NUMBER a_LITERAL a_PRAGMA_PREFIX z_COMPACT_STRINGS r_SIOOBE_FORMATTER h0 n0 _ T11.heap _
          rw [e11]
          exact ⟨a_SYMBOL, rfl, N0, rfl, (F_SYMBOL_ordinal.ne F_IDENTIFIER_ordinal (fun q => absurd (Value.int.inj q) (by decide)))⟩
      · have k13 : ∀ t, own_At p e below m s₁ 37 #[.val (.int p0)] [(.int (4 : Int32)), (.int p0)] t → own_En p e below m s₁ #[(.int p0)] 1 t := by
          intro t k
          refine k9 t ?_
          refine XS.icmpYes X0.here hx rfl (pc0 := 28) (pc' := 35) rfl (hb hby d_method_2_code_28) rfl (feq hc10).2 (by decide) (by decide) ?_
          show own_At p e below m s₁ 35 #[.val (.int p0)] [] t
          refine XS.iloadN X0.here hx rfl (hb hby d_method_2_code_35) rfl ?_
          show own_At p e below m s₁ 36 #[.val (.int p0)] [(.int p0)] t
          refine XS.iconst X0.here hx rfl (hb hby d_method_2_code_36) ?_
          show own_At p e below m s₁ 37 #[.val (.int p0)] [(.int (4 : Int32)), (.int p0)] t
          exact k
        by_cases hc14 : p0 = (4 : Int32)
        · obtain ⟨T15, X15, e15, st15⟩ := getS2 X0 hx hZ hown (host := "") (Or.inl (own_w hw 92 rfl)) Via.refl e0 (S_END.ext O0.2) (g := (mkF m 40 #[.val (.int p0)] [])) rfl (hb hby d_method_2_code_40)
          have k16 : ∀ t, own_At p e below m T15 43 #[.val (.int p0)] [(.ref a_END)] t → own_En p e below m s₁ #[(.int p0)] 1 t := by
            intro t k
            refine k13 t ?_
            refine XS.icmpNo X0.here hx rfl (hb hby d_method_2_code_37) rfl (teq hc14).2 ?_
            show own_At p e below m s₁ 40 #[.val (.int p0)] [] t
            refine st15 _ ?_
            show own_At p e below m T15 43 #[.val (.int p0)] [(.ref a_END)] t
            exact k
          obtain ⟨fs, hr, hrun, hended, hW, hsame⟩ := X15.leave (v := some (.ref a_END)) (fun h => by rw [Bd.returns] at h; cases h)
          refine hNG ⟨_, _, k16 _ ?_, hrun, hended, _, _, rfl, ?_, ⟨_, rfl⟩, hW, hsame.mono (by decide) (by decide)⟩
          · exact retOut X15 hx (t := (.object "com/example/gate3/gate3/io/Token$Kind")) Bd.returns rfl (Or.inr (Or.inr (Or.inr (Or.inr ⟨rfl, rfl, rfl⟩)))) (hb hby d_method_2_code_43) hr
          · show Q_ka Z p0 a_IDENTIFIER a_SYMBOL a_DIRECTIVE a_END a_FILE_START a_FILE_END a_NUMBER a_LITERAL a_PRAGMA_PREFIX z_COMPACT_STRINGS r_SIOOBE_FORMATTER h0 n0 _ T15.heap _
            rw [e15]
            exact ⟨a_END, rfl, N0, rfl, (F_END_ordinal.ne F_IDENTIFIER_ordinal (fun q => absurd (Value.int.inj q) (by decide)))⟩
        · have k17 : ∀ t, own_At p e below m s₁ 46 #[.val (.int p0)] [(.int (5 : Int32)), (.int p0)] t → own_En p e below m s₁ #[(.int p0)] 1 t := by
            intro t k
            refine k13 t ?_
            refine XS.icmpYes X0.here hx rfl (pc0 := 37) (pc' := 44) rfl (hb hby d_method_2_code_37) rfl (feq hc14).2 (by decide) (by decide) ?_
            show own_At p e below m s₁ 44 #[.val (.int p0)] [] t
            refine XS.iloadN X0.here hx rfl (hb hby d_method_2_code_44) rfl ?_
            show own_At p e below m s₁ 45 #[.val (.int p0)] [(.int p0)] t
            refine XS.iconst X0.here hx rfl (hb hby d_method_2_code_45) ?_
            show own_At p e below m s₁ 46 #[.val (.int p0)] [(.int (5 : Int32)), (.int p0)] t
            exact k
          by_cases hc18 : p0 = (5 : Int32)
          · obtain ⟨T19, X19, e19, st19⟩ := getS2 X0 hx hZ hown (host := "") (Or.inl (own_w hw 102 rfl)) Via.refl e0 (S_PRAGMA_PREFIX.ext O0.2) (g := (mkF m 49 #[.val (.int p0)] [])) rfl (hb hby d_method_2_code_49)
            have k20 : ∀ t, own_At p e below m T19 52 #[.val (.int p0)] [(.ref a_PRAGMA_PREFIX)] t → own_En p e below m s₁ #[(.int p0)] 1 t := by
              intro t k
              refine k17 t ?_
              refine XS.icmpNo X0.here hx rfl (hb hby d_method_2_code_46) rfl (teq hc18).2 ?_
              show own_At p e below m s₁ 49 #[.val (.int p0)] [] t
              refine st19 _ ?_
              show own_At p e below m T19 52 #[.val (.int p0)] [(.ref a_PRAGMA_PREFIX)] t
              exact k
            obtain ⟨fs, hr, hrun, hended, hW, hsame⟩ := X19.leave (v := some (.ref a_PRAGMA_PREFIX)) (fun h => by rw [Bd.returns] at h; cases h)
            refine hNG ⟨_, _, k20 _ ?_, hrun, hended, _, _, rfl, ?_, ⟨_, rfl⟩, hW, hsame.mono (by decide) (by decide)⟩
            · exact retOut X19 hx (t := (.object "com/example/gate3/gate3/io/Token$Kind")) Bd.returns rfl (Or.inr (Or.inr (Or.inr (Or.inr ⟨rfl, rfl, rfl⟩)))) (hb hby d_method_2_code_52) hr
            · show Q_ka Z p0 a_IDENTIFIER a_SYMBOL a_DIRECTIVE a_END a_FILE_START a_FILE_END a_NUMBER a_LITERAL a_PRAGMA_PREFIX z_COMPACT_STRINGS r_SIOOBE_FORMATTER h0 n0 _ T19.heap _
              rw [e19]
              exact ⟨a_PRAGMA_PREFIX, rfl, N0, rfl, (F_PRAGMA_PREFIX_ordinal.ne F_IDENTIFIER_ordinal (fun q => absurd (Value.int.inj q) (by decide)))⟩
          · have k21 : ∀ t, own_At p e below m s₁ 56 #[.val (.int p0)] [(.int (6 : Int32)), (.int p0)] t → own_En p e below m s₁ #[(.int p0)] 1 t := by
              intro t k
              refine k17 t ?_
              refine XS.icmpYes X0.here hx rfl (pc0 := 46) (pc' := 53) rfl (hb hby d_method_2_code_46) rfl (feq hc18).2 (by decide) (by decide) ?_
              show own_At p e below m s₁ 53 #[.val (.int p0)] [] t
              refine XS.iloadN X0.here hx rfl (hb hby d_method_2_code_53) rfl ?_
              show own_At p e below m s₁ 54 #[.val (.int p0)] [(.int p0)] t
              refine XS.bipush X0.here hx rfl (hb hby d_method_2_code_54) ?_
              show own_At p e below m s₁ 56 #[.val (.int p0)] [(.int (6 : Int32)), (.int p0)] t
              exact k
            by_cases hc22 : p0 = (6 : Int32)
            · obtain ⟨T23, X23, e23, st23⟩ := getS2 X0 hx hZ hown (host := "") (Or.inl (own_w hw 94 rfl)) Via.refl e0 (S_FILE_START.ext O0.2) (g := (mkF m 59 #[.val (.int p0)] [])) rfl (hb hby d_method_2_code_59)
              have k24 : ∀ t, own_At p e below m T23 62 #[.val (.int p0)] [(.ref a_FILE_START)] t → own_En p e below m s₁ #[(.int p0)] 1 t := by
                intro t k
                refine k21 t ?_
                refine XS.icmpNo X0.here hx rfl (hb hby d_method_2_code_56) rfl (teq hc22).2 ?_
                show own_At p e below m s₁ 59 #[.val (.int p0)] [] t
                refine st23 _ ?_
                show own_At p e below m T23 62 #[.val (.int p0)] [(.ref a_FILE_START)] t
                exact k
              obtain ⟨fs, hr, hrun, hended, hW, hsame⟩ := X23.leave (v := some (.ref a_FILE_START)) (fun h => by rw [Bd.returns] at h; cases h)
              refine hNG ⟨_, _, k24 _ ?_, hrun, hended, _, _, rfl, ?_, ⟨_, rfl⟩, hW, hsame.mono (by decide) (by decide)⟩
              · exact retOut X23 hx (t := (.object "com/example/gate3/gate3/io/Token$Kind")) Bd.returns rfl (Or.inr (Or.inr (Or.inr (Or.inr ⟨rfl, rfl, rfl⟩)))) (hb hby d_method_2_code_62) hr
              · show Q_ka Z p0 a_IDENTIFIER a_SYMBOL a_DIRECTIVE a_END a_FILE_START a_FILE_END a_NUMBER a_LITERAL a_PRAGMA_PREFIX z_COMPACT_STRINGS r_SIOOBE_FORMATTER h0 n0 _ T23.heap _
                rw [e23]
                exact ⟨a_FILE_START, rfl, N0, rfl, (F_FILE_START_ordinal.ne F_IDENTIFIER_ordinal (fun q => absurd (Value.int.inj q) (by decide)))⟩
            · have k25 : ∀ t, own_At p e below m s₁ 66 #[.val (.int p0)] [(.int (7 : Int32)), (.int p0)] t → own_En p e below m s₁ #[(.int p0)] 1 t := by
                intro t k
                refine k21 t ?_
                refine XS.icmpYes X0.here hx rfl (pc0 := 56) (pc' := 63) rfl (hb hby d_method_2_code_56) rfl (feq hc22).2 (by decide) (by decide) ?_
                show own_At p e below m s₁ 63 #[.val (.int p0)] [] t
                refine XS.iloadN X0.here hx rfl (hb hby d_method_2_code_63) rfl ?_
                show own_At p e below m s₁ 64 #[.val (.int p0)] [(.int p0)] t
                refine XS.bipush X0.here hx rfl (hb hby d_method_2_code_64) ?_
                show own_At p e below m s₁ 66 #[.val (.int p0)] [(.int (7 : Int32)), (.int p0)] t
                exact k
              by_cases hc26 : p0 = (7 : Int32)
              · obtain ⟨T27, X27, e27, st27⟩ := getS2 X0 hx hZ hown (host := "") (Or.inl (own_w hw 96 rfl)) Via.refl e0 (S_FILE_END.ext O0.2) (g := (mkF m 69 #[.val (.int p0)] [])) rfl (hb hby d_method_2_code_69)
                have k28 : ∀ t, own_At p e below m T27 72 #[.val (.int p0)] [(.ref a_FILE_END)] t → own_En p e below m s₁ #[(.int p0)] 1 t := by
                  intro t k
                  refine k25 t ?_
                  refine XS.icmpNo X0.here hx rfl (hb hby d_method_2_code_66) rfl (teq hc26).2 ?_
                  show own_At p e below m s₁ 69 #[.val (.int p0)] [] t
                  refine st27 _ ?_
                  show own_At p e below m T27 72 #[.val (.int p0)] [(.ref a_FILE_END)] t
                  exact k
                obtain ⟨fs, hr, hrun, hended, hW, hsame⟩ := X27.leave (v := some (.ref a_FILE_END)) (fun h => by rw [Bd.returns] at h; cases h)
                refine hNG ⟨_, _, k28 _ ?_, hrun, hended, _, _, rfl, ?_, ⟨_, rfl⟩, hW, hsame.mono (by decide) (by decide)⟩
                · exact retOut X27 hx (t := (.object "com/example/gate3/gate3/io/Token$Kind")) Bd.returns rfl (Or.inr (Or.inr (Or.inr (Or.inr ⟨rfl, rfl, rfl⟩)))) (hb hby d_method_2_code_72) hr
                · show Q_ka Z p0 a_IDENTIFIER a_SYMBOL a_DIRECTIVE a_END a_FILE_START a_FILE_END a_NUMBER a_LITERAL a_PRAGMA_PREFIX z_COMPACT_STRINGS r_SIOOBE_FORMATTER h0 n0 _ T27.heap _
                  rw [e27]
                  exact ⟨a_FILE_END, rfl, N0, rfl, (F_FILE_END_ordinal.ne F_IDENTIFIER_ordinal (fun q => absurd (Value.int.inj q) (by decide)))⟩
              · obtain ⟨T29, X29, e29, st29⟩ := getS2 X0 hx hZ hown (host := "") (Or.inl (own_w hw 90 rfl)) Via.refl e0 (S_DIRECTIVE.ext O0.2) (g := (mkF m 73 #[.val (.int p0)] [])) rfl (hb hby d_method_2_code_73)
                have k30 : ∀ t, own_At p e below m T29 76 #[.val (.int p0)] [(.ref a_DIRECTIVE)] t → own_En p e below m s₁ #[(.int p0)] 1 t := by
                  intro t k
                  refine k25 t ?_
                  refine XS.icmpYes X0.here hx rfl (pc0 := 66) (pc' := 73) rfl (hb hby d_method_2_code_66) rfl (feq hc26).2 (by decide) (by decide) ?_
                  show own_At p e below m s₁ 73 #[.val (.int p0)] [] t
                  refine st29 _ ?_
                  show own_At p e below m T29 76 #[.val (.int p0)] [(.ref a_DIRECTIVE)] t
                  exact k
                obtain ⟨fs, hr, hrun, hended, hW, hsame⟩ := X29.leave (v := some (.ref a_DIRECTIVE)) (fun h => by rw [Bd.returns] at h; cases h)
                refine hNG ⟨_, _, k30 _ ?_, hrun, hended, _, _, rfl, ?_, ⟨_, rfl⟩, hW, hsame.mono (by decide) (by decide)⟩
                · exact retOut X29 hx (t := (.object "com/example/gate3/gate3/io/Token$Kind")) Bd.returns rfl (Or.inr (Or.inr (Or.inr (Or.inr ⟨rfl, rfl, rfl⟩)))) (hb hby d_method_2_code_76) hr
                · show Q_ka Z p0 a_IDENTIFIER a_SYMBOL a_DIRECTIVE a_END a_FILE_START a_FILE_END a_NUMBER a_LITERAL a_PRAGMA_PREFIX z_COMPACT_STRINGS r_SIOOBE_FORMATTER h0 n0 _ T29.heap _
                  rw [e29]
                  exact ⟨a_DIRECTIVE, rfl, N0, rfl, (F_DIRECTIVE_ordinal.ne F_IDENTIFIER_ordinal (fun q => absurd (Value.int.inj q) (by decide)))⟩
theorem ef_tb (m : MethodId) (x0 : Int32)  : entryFrame m #[(.int x0)] 1 = mkF m 0 #[.val (.int x0)] [] := by first | (simp [entryFrame, mkF, argsToLocals, Value.category]; done) | rfl
theorem d_jdk_43_method_46_code_0 : decode jdk_43_method_46_code 0 = .ok (.iconst 1, 1) := by decide +kernel
theorem d_jdk_43_method_46_code_1 : decode jdk_43_method_46_code 1 = .ok (.newarray .byte, 2) := by decide +kernel
theorem d_jdk_43_method_46_code_3 : decode jdk_43_method_46_code 3 = .ok (.dup, 1) := by decide +kernel
theorem d_jdk_43_method_46_code_4 : decode jdk_43_method_46_code 4 = .ok (.iconst 0, 1) := by decide +kernel
theorem d_jdk_43_method_46_code_5 : decode jdk_43_method_46_code 5 = .ok (.iload_n 0, 1) := by decide +kernel
theorem d_jdk_43_method_46_code_6 : decode jdk_43_method_46_code 6 = .ok (.i2b, 1) := by decide +kernel
theorem d_jdk_43_method_46_code_7 : decode jdk_43_method_46_code 7 = .ok (.bastore, 1) := by decide +kernel
theorem d_jdk_43_method_46_code_8 : decode jdk_43_method_46_code 8 = .ok (.areturn, 1) := by decide +kernel
theorem pn_java_lang_StringLatin1 : plainName "java/lang/StringLatin1" = true := by first | (simp [plainName, overriddenIn]; done) | decide +kernel
abbrev own_m1 : MethodName := ⟨"java/lang/StringLatin1", "toBytes", "(C)[B"⟩
def Q_tb (Z : State) (q0 : Int32) (a_IDENTIFIER : Addr) (a_SYMBOL : Addr) (a_DIRECTIVE : Addr) (a_END : Addr) (a_FILE_START : Addr) (a_FILE_END : Addr) (a_NUMBER : Addr) (a_LITERAL : Addr) (a_PRAGMA_PREFIX : Addr) (z_COMPACT_STRINGS : Int32) (r_SIOOBE_FORMATTER : Value) (h0 : Heap) (n0 : Nat) (v : Option Value) (h : Heap) (L : List Loc) : Prop := ∃ (b : Addr) (k : ClassId), v = some (.ref b) ∧ Fr n0 L ∧ Old Z n0 h ∧ Keep h0 h [] ∧ n0 ≤ b ∧ h0.size ≤ b ∧ Arv Z h b k .byte (1 : Int32) [(.int (q0.toInt8.toInt32.toInt8.toInt32))] (.int (0 : Int32))
set_option maxRecDepth 65536 in
set_option maxHeartbeats 40000000 in
theorem rm_tb (l : Launch) (Z : State) (a0 : Array Value) (hw : ∀ d ∈ tables_1, d.before a0 Z = true) (ws : List Jvm.Cond) (q0 : Int32) (a_IDENTIFIER : Addr) (a_SYMBOL : Addr) (a_DIRECTIVE : Addr) (a_END : Addr) (a_FILE_START : Addr) (a_FILE_END : Addr) (a_NUMBER : Addr) (a_LITERAL : Addr) (a_PRAGMA_PREFIX : Addr) (z_COMPACT_STRINGS : Int32) (r_SIOOBE_FORMATTER : Value) (h0 : Heap) (n0 : Nat) (O0 : Old Z n0 h0) (hE : EV Z a_IDENTIFIER a_SYMBOL a_DIRECTIVE a_END a_FILE_START a_FILE_END a_NUMBER a_LITERAL a_PRAGMA_PREFIX z_COMPACT_STRINGS r_SIOOBE_FORMATTER) :
    MetFree l own_m1 (head1 (Jvm.Cond.code own_m1 jdk_43_method_46_code 1 (some (.array .byte)) :: ws) ({ frames := 0, cells := 1, slots := 1, locals := 0 } : Room)) (fun a U => a = #[(.int q0)] ∧ Z.Warmed39 U.vm ∧ U.heap = h0) (fun _ _ _ _ _ => True) (fun _ U o U' => ∃ v L, o = .returned v ∧ Q_tb Z q0 a_IDENTIFIER a_SYMBOL a_DIRECTIVE a_END a_FILE_START a_FILE_END a_NUMBER a_LITERAL a_PRAGMA_PREFIX z_COMPACT_STRINGS r_SIOOBE_FORMATTER h0 n0 v U'.heap L ∧ FrameEnd U o U' L ({ frames := 0, cells := 1, slots := 1, locals := 0 } : Room).cells ({ frames := 0, cells := 1, slots := 1, locals := 0 } : Room).slots) := by
  refine MetFree.of_bodySF (plainFor_of_name pn_java_lang_StringLatin1) hisR ?_
  intro p e s m args below meth c s₁ Bd hml0 hP hK
  obtain ⟨rfl, hZ, hh⟩ := hP
  have hx := Bd.exec
  have hby := Bd.bytes
  have hml : c.maxLocals = 1 := hml0
  have hown : s.vm.findClass "java/lang/StringLatin1" = some m.cls := findClass_of_methodNamed Bd.named
  have hnm := (name_of_methodNamed Bd.named Bd.method).1
  have X0 : Stand p l e ({ frames := 0, cells := 1, slots := 1, locals := 0 } : Room) s m #[(.int q0)] below meth c s₁ [] 0 0 := Stand.of_body Bd
  have e0 : s₁.heap = h0 := by rw [← hh, Bd.state]; rfl
  have N0 := Fr.nil n0
  refine Classical.byContradiction fun hNG => ?_
  have K0 := Keep.refl h0 []
  have k0 : ∀ t, own_At p e below m s₁ 0 #[.val (.int q0)] [] t → own_En p e below m s₁ #[(.int q0)] 1 t := fun t k => castTop (ef_tb m q0 ) k
  obtain ⟨S_IDENTIFIER, E_IDENTIFIER, S_SYMBOL, E_SYMBOL, F_SYMBOL_ordinal, F_IDENTIFIER_ordinal, S_DIRECTIVE, E_DIRECTIVE, F_DIRECTIVE_ordinal, S_END, E_END, F_END_ordinal, S_FILE_START, E_FILE_START, F_FILE_START_ordinal, S_FILE_END, E_FILE_END, F_FILE_END_ordinal, S_NUMBER, E_NUMBER, F_NUMBER_ordinal, S_LITERAL, E_LITERAL, F_LITERAL_ordinal, S_PRAGMA_PREFIX, E_PRAGMA_PREFIX, F_PRAGMA_PREFIX_ordinal, S_COMPACT_STRINGS, nz_COMPACT_STRINGS, S_SIOOBE_FORMATTER, iS_SIOOBE_FORMATTER⟩ := (id hE : EV Z a_IDENTIFIER a_SYMBOL a_DIRECTIVE a_END a_FILE_START a_FILE_END a_NUMBER a_LITERAL a_PRAGMA_PREFIX z_COMPACT_STRINGS r_SIOOBE_FORMATTER)
  obtain ⟨T1, h1, c1, X1, e1, E1, A1, st1⟩ := newP X0 hx hZ (own_w hw 27 rfl) e0 (g := (mkF m 1 #[.val (.int q0)] [(.int (1 : Int32))])) rfl (hb hby d_jdk_43_method_46_code_1) rfl (by decide) (cap := 1) (by decide) (by decide) (by decide) (by decide)
  obtain ⟨b1, g1⟩ : ∃ z, z = h0.size := ⟨_, rfl⟩
  rw [← g1] at A1 st1
  have O1 := O0.ext E1
  have g_b1 : n0 ≤ b1 := Nat.le_trans (Nat.le_of_eq O0.1.symm) (Nat.le_trans O0.2.1 (Nat.le_of_eq g1.symm))
  have s_b1 : h0.size ≤ b1 := Nat.le_trans K0.1 (Nat.le_of_eq g1.symm)
  have K1 := K0.ext E1
  have V1 : Arv Z h1 b1 c1 .byte (1 : Int32) [(.int (0 : Int32))] (.int (0 : Int32)) := (Arv.new A1 (by decide)).pad (pad_rep [] (.int (0 : Int32)) 1)
  have lt_b1 := V1.lt
  obtain ⟨cl2, Ar2, q2, Sz2, Nn2, Hs2, Gf2⟩ := id V1
  have hin3 : ¬ ((0 : Int32) < 0 ∨ cl2.slots.size ≤ ((0 : Int32)).toNatClampNeg) := inb_of Sz2 ⟨by decide, by decide⟩
  obtain ⟨T4, h4, X4, e4, W4, st4⟩ := stB X1 hx hZ e1 Ar2 (j := (0 : Int32)) hin3 (g := (mkF m 7 #[.val (.int q0)] [(.int (q0.toInt8.toInt32)), (.int (0 : Int32)), (.ref b1), (.ref b1)])) rfl rfl (hb hby d_jdk_43_method_46_code_7)
  have V4 : Arv Z h4 b1 c1 .byte (1 : Int32) [(.int (q0.toInt8.toInt32.toInt8.toInt32))] (.int (0 : Int32)) := Arv.set Ar2 q2 Sz2 Nn2 Hs2 Gf2 (fits_nar_byte _) W4 0 rfl (Nat.le_of_ble_eq_true rfl)
  have N4 := Fr.snoc X4 N0 g_b1
  have O4 := O1.wr W4 g_b1
  have K4 := K1.wr W4 (Or.inr s_b1)
  have k5 : ∀ t, own_At p e below m T4 8 #[.val (.int q0)] [(.ref b1)] t → own_En p e below m s₁ #[(.int q0)] 1 t := by
    intro t k
    refine k0 t ?_
    refine XS.iconst X0.here hx rfl (hb hby d_jdk_43_method_46_code_0) ?_
    show own_At p e below m s₁ 1 #[.val (.int q0)] [(.int (1 : Int32))] t
    refine st1 _ ?_
    show own_At p e below m T1 3 #[.val (.int q0)] [(.ref b1)] t
    refine XS.dup X1.here hx rfl (hb hby d_jdk_43_method_46_code_3) rfl rfl ?_
    show own_At p e below m T1 4 #[.val (.int q0)] [(.ref b1), (.ref b1)] t
    refine XS.iconst X1.here hx rfl (hb hby d_jdk_43_method_46_code_4) ?_
    show own_At p e below m T1 5 #[.val (.int q0)] [(.int (0 : Int32)), (.ref b1), (.ref b1)] t
    refine XS.iloadN X1.here hx rfl (hb hby d_jdk_43_method_46_code_5) rfl ?_
    show own_At p e below m T1 6 #[.val (.int q0)] [(.int q0), (.int (0 : Int32)), (.ref b1), (.ref b1)] t
    refine XS.i2b X1.here hx rfl (hb hby d_jdk_43_method_46_code_6) rfl ?_
    show own_At p e below m T1 7 #[.val (.int q0)] [(.int (q0.toInt8.toInt32)), (.int (0 : Int32)), (.ref b1), (.ref b1)] t
    refine st4 _ ?_
    show own_At p e below m T4 8 #[.val (.int q0)] [(.ref b1)] t
    exact k
  obtain ⟨fs, hr, hrun, hended, hW, hsame⟩ := X4.leave (v := some (.ref b1)) (fun h => by rw [Bd.returns] at h; cases h)
  refine hNG ⟨_, _, k5 _ ?_, hrun, hended, _, _, rfl, ?_, ⟨_, rfl⟩, hW, hsame.mono (by decide) (by decide)⟩
  · exact retOut X4 hx (t := (.array .byte)) Bd.returns rfl (Or.inr (Or.inr (Or.inr (Or.inr ⟨rfl, rfl, rfl⟩)))) (hb hby d_jdk_43_method_46_code_8) hr
  · show Q_tb Z q0 a_IDENTIFIER a_SYMBOL a_DIRECTIVE a_END a_FILE_START a_FILE_END a_NUMBER a_LITERAL a_PRAGMA_PREFIX z_COMPACT_STRINGS r_SIOOBE_FORMATTER h0 n0 _ T4.heap _
    rw [e4]
    exact ⟨b1, c1, rfl, N4, O4, K4, g_b1, s_b1, V4⟩
theorem ef_si (m : MethodId) (x0 : Addr) (x1 : Addr) (x2 : Int32)  : entryFrame m #[(.ref x0), (.ref x1), (.int x2)] 3 = mkF m 0 #[.val (.ref x0), .val (.ref x1), .val (.int x2)] [] := by first | (simp [entryFrame, mkF, argsToLocals, Value.category]; done) | rfl
theorem d_jdk_42_method_151_code_0 : decode jdk_42_method_151_code 0 = .ok (.aload_n 0, 1) := by decide +kernel
theorem d_jdk_42_method_151_code_1 : decode jdk_42_method_151_code 1 = .ok (.invokespecial 1, 3) := by decide +kernel
theorem d_jdk_42_method_151_code_4 : decode jdk_42_method_151_code 4 = .ok (.aload_n 0, 1) := by decide +kernel
theorem d_jdk_42_method_151_code_5 : decode jdk_42_method_151_code 5 = .ok (.aload_n 1, 1) := by decide +kernel
theorem d_jdk_42_method_151_code_6 : decode jdk_42_method_151_code 6 = .ok (.putfield 9, 3) := by decide +kernel
theorem d_jdk_42_method_151_code_9 : decode jdk_42_method_151_code 9 = .ok (.aload_n 0, 1) := by decide +kernel
theorem d_jdk_42_method_151_code_10 : decode jdk_42_method_151_code 10 = .ok (.iload_n 2, 1) := by decide +kernel
theorem d_jdk_42_method_151_code_11 : decode jdk_42_method_151_code 11 = .ok (.putfield 15, 3) := by decide +kernel
theorem d_jdk_42_method_151_code_14 : decode jdk_42_method_151_code 14 = .ok (.return_, 1) := by decide +kernel
theorem pn_java_lang_String : plainName "java/lang/String" = true := by first | (simp [plainName, overriddenIn]; done) | decide +kernel
abbrev own_m2 : MethodName := ⟨"java/lang/String", "<init>", "([BB)V"⟩
def Q_si (Z : State) (a1 : Addr) (r2 : Addr) (a_IDENTIFIER : Addr) (a_SYMBOL : Addr) (a_DIRECTIVE : Addr) (a_END : Addr) (a_FILE_START : Addr) (a_FILE_END : Addr) (a_NUMBER : Addr) (a_LITERAL : Addr) (a_PRAGMA_PREFIX : Addr) (z_COMPACT_STRINGS : Int32) (r_SIOOBE_FORMATTER : Value) (h0 : Heap) (n0 : Nat) (v : Option Value) (h : Heap) (L : List Loc) : Prop := v = none ∧ Fr n0 L ∧ Old Z n0 h ∧ Keep h0 h [a1] ∧ Exa Z h a1 "java/lang/String" ∧ Fld Z h a1 "java/lang/String" "value" "[B" (.ref r2) ∧ Fld Z h a1 "java/lang/String" "coder" "B" (.int (0 : Int32))
set_option maxRecDepth 65536 in
set_option maxHeartbeats 40000000 in
theorem rm_si (l : Launch) (Z : State) (a0 : Array Value) (hw : ∀ d ∈ tables_1, d.before a0 Z = true) (ws : List Jvm.Cond) (a1 : Addr) (r2 : Addr) (a_IDENTIFIER : Addr) (a_SYMBOL : Addr) (a_DIRECTIVE : Addr) (a_END : Addr) (a_FILE_START : Addr) (a_FILE_END : Addr) (a_NUMBER : Addr) (a_LITERAL : Addr) (a_PRAGMA_PREFIX : Addr) (z_COMPACT_STRINGS : Int32) (r_SIOOBE_FORMATTER : Value) (h0 : Heap) (n0 : Nat) (O0 : Old Z n0 h0) (hE : EV Z a_IDENTIFIER a_SYMBOL a_DIRECTIVE a_END a_FILE_START a_FILE_END a_NUMBER a_LITERAL a_PRAGMA_PREFIX z_COMPACT_STRINGS r_SIOOBE_FORMATTER) (F_value : Fld Z h0 a1 "java/lang/String" "value" "[B" .null) (F_coder : Fld Z h0 a1 "java/lang/String" "coder" "B" (.int (0 : Int32))) (E_a1 : Exa Z h0 a1 "java/lang/String") (g_a1 : n0 ≤ a1) :
    MetFree l own_m2 (head1 (Jvm.Cond.code own_m2 jdk_42_method_151_code 3 none :: ws) ({ frames := 1, cells := 0, slots := 0, locals := 12 } : Room)) (fun a U => a = #[(.ref a1), (.ref r2), (.int (0 : Int32))] ∧ Z.Warmed39 U.vm ∧ U.heap = h0) (fun _ _ _ _ _ => True) (fun _ U o U' => ∃ v L, o = .returned v ∧ Q_si Z a1 r2 a_IDENTIFIER a_SYMBOL a_DIRECTIVE a_END a_FILE_START a_FILE_END a_NUMBER a_LITERAL a_PRAGMA_PREFIX z_COMPACT_STRINGS r_SIOOBE_FORMATTER h0 n0 v U'.heap L ∧ FrameEnd U o U' L ({ frames := 1, cells := 0, slots := 0, locals := 12 } : Room).cells ({ frames := 1, cells := 0, slots := 0, locals := 12 } : Room).slots) := by
  refine MetFree.of_bodySF (plainFor_of_name pn_java_lang_String) hisR ?_
  intro p e s m args below meth c s₁ Bd hml0 hP hK
  obtain ⟨rfl, hZ, hh⟩ := hP
  have hx := Bd.exec
  have hby := Bd.bytes
  have hml : c.maxLocals = 3 := hml0
  have hown : s.vm.findClass "java/lang/String" = some m.cls := findClass_of_methodNamed Bd.named
  have hnm := (name_of_methodNamed Bd.named Bd.method).1
  have X0 : Stand p l e ({ frames := 1, cells := 0, slots := 0, locals := 12 } : Room) s m #[(.ref a1), (.ref r2), (.int (0 : Int32))] below meth c s₁ [] 0 0 := Stand.of_body Bd
  have e0 : s₁.heap = h0 := by rw [← hh, Bd.state]; rfl
  have N0 := Fr.nil n0
  refine Classical.byContradiction fun hNG => ?_
  have K0 := Keep.refl h0 [a1]
  have k0 : ∀ t, own_At p e below m s₁ 0 #[.val (.ref a1), .val (.ref r2), .val (.int (0 : Int32))] [] t → own_En p e below m s₁ #[(.ref a1), (.ref r2), (.int (0 : Int32))] 3 t := fun t k => castTop (ef_si m a1 r2 ((0 : Int32)) ) k
  obtain ⟨S_IDENTIFIER, E_IDENTIFIER, S_SYMBOL, E_SYMBOL, F_SYMBOL_ordinal, F_IDENTIFIER_ordinal, S_DIRECTIVE, E_DIRECTIVE, F_DIRECTIVE_ordinal, S_END, E_END, F_END_ordinal, S_FILE_START, E_FILE_START, F_FILE_START_ordinal, S_FILE_END, E_FILE_END, F_FILE_END_ordinal, S_NUMBER, E_NUMBER, F_NUMBER_ordinal, S_LITERAL, E_LITERAL, F_LITERAL_ordinal, S_PRAGMA_PREFIX, E_PRAGMA_PREFIX, F_PRAGMA_PREFIX_ordinal, S_COMPACT_STRINGS, nz_COMPACT_STRINGS, S_SIOOBE_FORMATTER, iS_SIOOBE_FORMATTER⟩ := (id hE : EV Z a_IDENTIFIER a_SYMBOL a_DIRECTIVE a_END a_FILE_START a_FILE_END a_NUMBER a_LITERAL a_PRAGMA_PREFIX z_COMPACT_STRINGS r_SIOOBE_FORMATTER)
  obtain ⟨T1, X1, e1, st1⟩ := initO X0 hx hZ hown (own_w hw 19 rfl) (own_w hw 20 rfl) (own_w hw 21 rfl) e0 (g := (mkF m 1 #[.val (.ref a1), .val (.ref r2), .val (.int (0 : Int32))] [(.ref a1)])) rfl (by rw [hml]; rfl) rfl (hb hby d_jdk_42_method_151_code_1) (by decide) (W := 0) (by show 2 * 0 + _ ≤ _; exact Nat.le_of_eq rfl) (by decide)
  obtain ⟨T2, h2, X2, e2, W2, st2⟩ := putF X1 hx hZ hown (host := "") (Or.inl (own_w hw 36 rfl)) Via.refl e1 F_value E_a1 (Or.inr ⟨(own_w hw 37 rfl), rfl, hnm⟩) (own_w hw 10 rfl) (ty := (.array .byte)) (by decide) rfl rfl (g := (mkF m 6 #[.val (.ref a1), .val (.ref r2), .val (.int (0 : Int32))] [(.ref r2), (.ref a1)])) rfl rfl (hb hby d_jdk_42_method_151_code_6)
  have F2_value := F_value.same W2
  have N2 := Fr.snoc X2 N0 g_a1
  have O2 := O0.wr W2 g_a1
  have K2 := K0.wr W2 (Or.inl (List.mem_of_getElem? (i := 0) rfl))
  have f3 := (E_a1.wr W2)
  have f4 := (F_coder.other W2 (Or.inr (slot_ne (Or.inr (own_w hw 35 rfl)) (Or.inr (own_w hw 37 rfl)) (by decide) (t := .byte) (t' := (.array .byte)) (by decide) (by decide))))
  obtain ⟨T5, h5, X5, e5, W5, st5⟩ := putFN X2 hx hZ hown (own_w hw 34 rfl) Via.refl e2 f4 f3 (Or.inr ⟨(own_w hw 35 rfl), rfl, hnm⟩) (own_w hw 10 rfl) (ty := .byte) (v' := .int (0 : Int32)) (by decide) rfl (by decide) (g := (mkF m 11 #[.val (.ref a1), .val (.ref r2), .val (.int (0 : Int32))] [(.int (0 : Int32)), (.ref a1)])) rfl rfl (hb hby d_jdk_42_method_151_code_11)
  have F5_coder := f4.same W5
  have N5 := Fr.snoc X5 N2 g_a1
  have O5 := O2.wr W5 g_a1
  have K5 := K2.wr W5 (Or.inl (List.mem_of_getElem? (i := 0) rfl))
  have k6 : ∀ t, own_At p e below m T5 14 #[.val (.ref a1), .val (.ref r2), .val (.int (0 : Int32))] [] t → own_En p e below m s₁ #[(.ref a1), (.ref r2), (.int (0 : Int32))] 3 t := by
    intro t k
    refine k0 t ?_
    refine XS.aloadN X0.here hx rfl (hb hby d_jdk_42_method_151_code_0) rfl rfl ?_
    show own_At p e below m s₁ 1 #[.val (.ref a1), .val (.ref r2), .val (.int (0 : Int32))] [(.ref a1)] t
    refine st1 _ ?_
    show own_At p e below m T1 4 #[.val (.ref a1), .val (.ref r2), .val (.int (0 : Int32))] [] t
    refine XS.aloadN X1.here hx rfl (hb hby d_jdk_42_method_151_code_4) rfl rfl ?_
    show own_At p e below m T1 5 #[.val (.ref a1), .val (.ref r2), .val (.int (0 : Int32))] [(.ref a1)] t
    refine XS.aloadN X1.here hx rfl (hb hby d_jdk_42_method_151_code_5) rfl rfl ?_
    show own_At p e below m T1 6 #[.val (.ref a1), .val (.ref r2), .val (.int (0 : Int32))] [(.ref r2), (.ref a1)] t
    refine st2 _ ?_
    show own_At p e below m T2 9 #[.val (.ref a1), .val (.ref r2), .val (.int (0 : Int32))] [] t
    refine XS.aloadN X2.here hx rfl (hb hby d_jdk_42_method_151_code_9) rfl rfl ?_
    show own_At p e below m T2 10 #[.val (.ref a1), .val (.ref r2), .val (.int (0 : Int32))] [(.ref a1)] t
    refine XS.iloadN X2.here hx rfl (hb hby d_jdk_42_method_151_code_10) rfl ?_
    show own_At p e below m T2 11 #[.val (.ref a1), .val (.ref r2), .val (.int (0 : Int32))] [(.int (0 : Int32)), (.ref a1)] t
    refine st5 _ ?_
    show own_At p e below m T5 14 #[.val (.ref a1), .val (.ref r2), .val (.int (0 : Int32))] [] t
    exact k
  have f7 := (F2_value.other W5 (Or.inr (slot_ne (Or.inr (own_w hw 37 rfl)) (Or.inr (own_w hw 35 rfl)) (by decide) (t := (.array .byte)) (t' := .byte) (by decide) (by decide))))
  have f8 := (f3.wr W5)
  obtain ⟨fs, hr, hrun, hended, hW, hsame⟩ := X5.leave (v := none) (fun _ => rfl)
  refine hNG ⟨_, _, k6 _ ?_, hrun, hended, _, _, rfl, ?_, ⟨_, rfl⟩, hW, hsame.mono (by decide) (by decide)⟩
  · exact X5.returnOut hx Bd.returns (hb hby d_jdk_42_method_151_code_14) hr
  · show Q_si Z a1 r2 a_IDENTIFIER a_SYMBOL a_DIRECTIVE a_END a_FILE_START a_FILE_END a_NUMBER a_LITERAL a_PRAGMA_PREFIX z_COMPACT_STRINGS r_SIOOBE_FORMATTER h0 n0 _ T5.heap _
    rw [e5]
    exact ⟨rfl, N5, O5, K5, f8, f7, F5_coder⟩
theorem ef_ce (m : MethodId) (x0 : Int32)  : entryFrame m #[(.int x0)] 1 = mkF m 0 #[.val (.int x0)] [] := by first | (simp [entryFrame, mkF, argsToLocals, Value.category]; done) | rfl
theorem d_jdk_43_method_3_code_0 : decode jdk_43_method_3_code 0 = .ok (.iload_n 0, 1) := by decide +kernel
theorem d_jdk_43_method_3_code_1 : decode jdk_43_method_3_code 1 = .ok (.sipush 255, 3) := by decide +kernel
theorem d_jdk_43_method_3_code_4 : decode jdk_43_method_3_code 4 = .ok (.if_icmp .gt 7, 3) := by decide +kernel
theorem d_jdk_43_method_3_code_7 : decode jdk_43_method_3_code 7 = .ok (.iconst 1, 1) := by decide +kernel
theorem d_jdk_43_method_3_code_8 : decode jdk_43_method_3_code 8 = .ok (.goto 4, 3) := by decide +kernel
theorem d_jdk_43_method_3_code_12 : decode jdk_43_method_3_code 12 = .ok (.ireturn, 1) := by decide +kernel
abbrev own_m3 : MethodName := ⟨"java/lang/StringLatin1", "canEncode", "(C)Z"⟩
def Q_ce (Z : State) (q0 : Int32) (a_IDENTIFIER : Addr) (a_SYMBOL : Addr) (a_DIRECTIVE : Addr) (a_END : Addr) (a_FILE_START : Addr) (a_FILE_END : Addr) (a_NUMBER : Addr) (a_LITERAL : Addr) (a_PRAGMA_PREFIX : Addr) (z_COMPACT_STRINGS : Int32) (r_SIOOBE_FORMATTER : Value) (h0 : Heap) (n0 : Nat) (v : Option Value) (h : Heap) (L : List Loc) : Prop := v = some (.int (1 : Int32)) ∧ Fr n0 L ∧ h = h0
set_option maxRecDepth 65536 in
set_option maxHeartbeats 40000000 in
theorem rm_ce (l : Launch) (Z : State) (a0 : Array Value) (hw : ∀ d ∈ tables_1, d.before a0 Z = true) (ws : List Jvm.Cond) (q0 : Int32) (a_IDENTIFIER : Addr) (a_SYMBOL : Addr) (a_DIRECTIVE : Addr) (a_END : Addr) (a_FILE_START : Addr) (a_FILE_END : Addr) (a_NUMBER : Addr) (a_LITERAL : Addr) (a_PRAGMA_PREFIX : Addr) (z_COMPACT_STRINGS : Int32) (r_SIOOBE_FORMATTER : Value) (h0 : Heap) (n0 : Nat) (O0 : Old Z n0 h0) (hE : EV Z a_IDENTIFIER a_SYMBOL a_DIRECTIVE a_END a_FILE_START a_FILE_END a_NUMBER a_LITERAL a_PRAGMA_PREFIX z_COMPACT_STRINGS r_SIOOBE_FORMATTER) (hq : ¬ ((255 : Int32) < q0)) :
    MetFree l own_m3 (head1 (Jvm.Cond.code own_m3 jdk_43_method_3_code 1 (some .boolean) :: ws) ({ frames := 0, cells := 0, slots := 0, locals := 0 } : Room)) (fun a U => a = #[(.int q0)] ∧ Z.Warmed39 U.vm ∧ U.heap = h0) (fun _ _ _ _ _ => True) (fun _ U o U' => ∃ v L, o = .returned v ∧ Q_ce Z q0 a_IDENTIFIER a_SYMBOL a_DIRECTIVE a_END a_FILE_START a_FILE_END a_NUMBER a_LITERAL a_PRAGMA_PREFIX z_COMPACT_STRINGS r_SIOOBE_FORMATTER h0 n0 v U'.heap L ∧ FrameEnd U o U' L ({ frames := 0, cells := 0, slots := 0, locals := 0 } : Room).cells ({ frames := 0, cells := 0, slots := 0, locals := 0 } : Room).slots) := by
  refine MetFree.of_bodySF (plainFor_of_name pn_java_lang_StringLatin1) hisR ?_
  intro p e s m args below meth c s₁ Bd hml0 hP hK
  obtain ⟨rfl, hZ, hh⟩ := hP
  have hx := Bd.exec
  have hby := Bd.bytes
  have hml : c.maxLocals = 1 := hml0
  have hown : s.vm.findClass "java/lang/StringLatin1" = some m.cls := findClass_of_methodNamed Bd.named
  have hnm := (name_of_methodNamed Bd.named Bd.method).1
  have X0 : Stand p l e ({ frames := 0, cells := 0, slots := 0, locals := 0 } : Room) s m #[(.int q0)] below meth c s₁ [] 0 0 := Stand.of_body Bd
  have e0 : s₁.heap = h0 := by rw [← hh, Bd.state]; rfl
  have N0 := Fr.nil n0
  refine Classical.byContradiction fun hNG => ?_
  have K0 := Keep.refl h0 []
  have k0 : ∀ t, own_At p e below m s₁ 0 #[.val (.int q0)] [] t → own_En p e below m s₁ #[(.int q0)] 1 t := fun t k => castTop (ef_ce m q0 ) k
  obtain ⟨S_IDENTIFIER, E_IDENTIFIER, S_SYMBOL, E_SYMBOL, F_SYMBOL_ordinal, F_IDENTIFIER_ordinal, S_DIRECTIVE, E_DIRECTIVE, F_DIRECTIVE_ordinal, S_END, E_END, F_END_ordinal, S_FILE_START, E_FILE_START, F_FILE_START_ordinal, S_FILE_END, E_FILE_END, F_FILE_END_ordinal, S_NUMBER, E_NUMBER, F_NUMBER_ordinal, S_LITERAL, E_LITERAL, F_LITERAL_ordinal, S_PRAGMA_PREFIX, E_PRAGMA_PREFIX, F_PRAGMA_PREFIX_ordinal, S_COMPACT_STRINGS, nz_COMPACT_STRINGS, S_SIOOBE_FORMATTER, iS_SIOOBE_FORMATTER⟩ := (id hE : EV Z a_IDENTIFIER a_SYMBOL a_DIRECTIVE a_END a_FILE_START a_FILE_END a_NUMBER a_LITERAL a_PRAGMA_PREFIX z_COMPACT_STRINGS r_SIOOBE_FORMATTER)
  have k1 : ∀ t, own_At p e below m s₁ 12 #[.val (.int q0)] [(.int (1 : Int32))] t → own_En p e below m s₁ #[(.int q0)] 1 t := by
    intro t k
    refine k0 t ?_
    refine XS.iloadN X0.here hx rfl (hb hby d_jdk_43_method_3_code_0) rfl ?_
    show own_At p e below m s₁ 1 #[.val (.int q0)] [(.int q0)] t
    refine XS.sipush X0.here hx rfl (hb hby d_jdk_43_method_3_code_1) ?_
    show own_At p e below m s₁ 4 #[.val (.int q0)] [(.int (255 : Int32)), (.int q0)] t
    refine XS.icmpNo X0.here hx rfl (hb hby d_jdk_43_method_3_code_4) rfl (flt hq).2.2.1 ?_
    show own_At p e below m s₁ 7 #[.val (.int q0)] [] t
    refine XS.iconst X0.here hx rfl (hb hby d_jdk_43_method_3_code_7) ?_
    show own_At p e below m s₁ 8 #[.val (.int q0)] [(.int (1 : Int32))] t
    refine XS.goto X0.here hx rfl (pc0 := 8) (pc' := 12) rfl (hb hby d_jdk_43_method_3_code_8) (by decide) (by decide) ?_
    show own_At p e below m s₁ 12 #[.val (.int q0)] [(.int (1 : Int32))] t
    exact k
  obtain ⟨fs, hr, hrun, hended, hW, hsame⟩ := X0.leave (v := some (.int (1 : Int32))) (fun h => by rw [Bd.returns] at h; cases h)
  refine hNG ⟨_, _, k1 _ ?_, hrun, hended, _, _, rfl, ?_, ⟨_, rfl⟩, hW, hsame.mono (by decide) (by decide)⟩
  · exact retN X0 hx (t := .boolean) Bd.returns (by simp) (hb hby d_jdk_43_method_3_code_12) hr
  · show Q_ce Z q0 a_IDENTIFIER a_SYMBOL a_DIRECTIVE a_END a_FILE_START a_FILE_END a_NUMBER a_LITERAL a_PRAGMA_PREFIX z_COMPACT_STRINGS r_SIOOBE_FORMATTER h0 n0 _ s₁.heap _
    rw [e0]
    exact ⟨rfl, N0, rfl⟩
theorem ef_vo (m : MethodId) (x0 : Int32)  : entryFrame m #[(.int x0)] 1 = mkF m 0 #[.val (.int x0)] [] := by first | (simp [entryFrame, mkF, argsToLocals, Value.category]; done) | rfl
theorem d_jdk_42_method_139_code_0 : decode jdk_42_method_139_code 0 = .ok (.getstatic 38, 3) := by decide +kernel
theorem d_jdk_42_method_139_code_3 : decode jdk_42_method_139_code 3 = .ok (.ifCond .eq 23, 3) := by decide +kernel
theorem d_jdk_42_method_139_code_6 : decode jdk_42_method_139_code 6 = .ok (.iload_n 0, 1) := by decide +kernel
theorem d_jdk_42_method_139_code_7 : decode jdk_42_method_139_code 7 = .ok (.invokestatic 1015, 3) := by decide +kernel
theorem pd__C_Z : parseMethodDescriptor "(C)Z" = some ⟨[.char], some .boolean⟩ := by decide +kernel
theorem d_jdk_42_method_139_code_10 : decode jdk_42_method_139_code 10 = .ok (.ifCond .eq 16, 3) := by decide +kernel
theorem d_jdk_42_method_139_code_13 : decode jdk_42_method_139_code 13 = .ok (.new 10, 3) := by decide +kernel
theorem d_jdk_42_method_139_code_16 : decode jdk_42_method_139_code 16 = .ok (.dup, 1) := by decide +kernel
theorem d_jdk_42_method_139_code_17 : decode jdk_42_method_139_code 17 = .ok (.iload_n 0, 1) := by decide +kernel
theorem d_jdk_42_method_139_code_18 : decode jdk_42_method_139_code 18 = .ok (.invokestatic 1018, 3) := by decide +kernel
theorem pd__C__B : parseMethodDescriptor "(C)[B" = some ⟨[.char], some (.array .byte)⟩ := by decide +kernel
theorem d_jdk_42_method_139_code_21 : decode jdk_42_method_139_code 21 = .ok (.iconst 0, 1) := by decide +kernel
theorem d_jdk_42_method_139_code_22 : decode jdk_42_method_139_code 22 = .ok (.invokespecial 209, 3) := by decide +kernel
theorem pd___BB_V : parseMethodDescriptor "([BB)V" = some ⟨[(.array .byte), .byte], none⟩ := by decide +kernel
theorem d_jdk_42_method_139_code_25 : decode jdk_42_method_139_code 25 = .ok (.areturn, 1) := by decide +kernel
abbrev own_m4 : MethodName := ⟨"java/lang/String", "valueOf", "(C)Ljava/lang/String;"⟩
def Q_vo (Z : State) (q0 : Int32) (a_IDENTIFIER : Addr) (a_SYMBOL : Addr) (a_DIRECTIVE : Addr) (a_END : Addr) (a_FILE_START : Addr) (a_FILE_END : Addr) (a_NUMBER : Addr) (a_LITERAL : Addr) (a_PRAGMA_PREFIX : Addr) (z_COMPACT_STRINGS : Int32) (r_SIOOBE_FORMATTER : Value) (h0 : Heap) (n0 : Nat) (v : Option Value) (h : Heap) (L : List Loc) : Prop := ∃ (b : Addr) (t : Addr) (k : ClassId), v = some (.ref b) ∧ Fr n0 L ∧ Old Z n0 h ∧ Keep h0 h [] ∧ n0 ≤ b ∧ h0.size ≤ b ∧ n0 ≤ t ∧ h0.size ≤ t ∧ ¬ (b = t) ∧ Exa Z h b "java/lang/String" ∧ Fld Z h b "java/lang/String" "coder" "B" (.int (0 : Int32)) ∧ Fld Z h b "java/lang/String" "value" "[B" (.ref t) ∧ Arv Z h t k .byte (1 : Int32) [(.int (q0.toInt8.toInt32.toInt8.toInt32))] (.int (0 : Int32))
set_option maxRecDepth 65536 in
set_option maxHeartbeats 40000000 in
theorem rm_vo (l : Launch) (Z : State) (a0 : Array Value) (hw : ∀ d ∈ tables_1, d.before a0 Z = true) (ws : List Jvm.Cond) (q0 : Int32) (a_IDENTIFIER : Addr) (a_SYMBOL : Addr) (a_DIRECTIVE : Addr) (a_END : Addr) (a_FILE_START : Addr) (a_FILE_END : Addr) (a_NUMBER : Addr) (a_LITERAL : Addr) (a_PRAGMA_PREFIX : Addr) (z_COMPACT_STRINGS : Int32) (r_SIOOBE_FORMATTER : Value) (h0 : Heap) (n0 : Nat) (O0 : Old Z n0 h0) (hE : EV Z a_IDENTIFIER a_SYMBOL a_DIRECTIVE a_END a_FILE_START a_FILE_END a_NUMBER a_LITERAL a_PRAGMA_PREFIX z_COMPACT_STRINGS r_SIOOBE_FORMATTER) (hq : ¬ ((255 : Int32) < q0)) :
    MetFree l own_m4 (head1 (Jvm.Cond.code own_m4 jdk_42_method_139_code 1 (some (.object "java/lang/String")) :: ws) ({ frames := 2, cells := 2, slots := 5, locals := 27 } : Room)) (fun a U => a = #[(.int q0)] ∧ Z.Warmed39 U.vm ∧ U.heap = h0) (fun _ _ _ _ _ => True) (fun _ U o U' => ∃ v L, o = .returned v ∧ Q_vo Z q0 a_IDENTIFIER a_SYMBOL a_DIRECTIVE a_END a_FILE_START a_FILE_END a_NUMBER a_LITERAL a_PRAGMA_PREFIX z_COMPACT_STRINGS r_SIOOBE_FORMATTER h0 n0 v U'.heap L ∧ FrameEnd U o U' L ({ frames := 2, cells := 2, slots := 5, locals := 27 } : Room).cells ({ frames := 2, cells := 2, slots := 5, locals := 27 } : Room).slots) := by
  refine MetFree.of_bodySF (plainFor_of_name pn_java_lang_String) hisR ?_
  intro p e s m args below meth c s₁ Bd hml0 hP hK
  obtain ⟨rfl, hZ, hh⟩ := hP
  have hx := Bd.exec
  have hby := Bd.bytes
  have hml : c.maxLocals = 1 := hml0
  have hown : s.vm.findClass "java/lang/String" = some m.cls := findClass_of_methodNamed Bd.named
  have hnm := (name_of_methodNamed Bd.named Bd.method).1
  have X0 : Stand p l e ({ frames := 2, cells := 2, slots := 5, locals := 27 } : Room) s m #[(.int q0)] below meth c s₁ [] 0 0 := Stand.of_body Bd
  have e0 : s₁.heap = h0 := by rw [← hh, Bd.state]; rfl
  have N0 := Fr.nil n0
  refine Classical.byContradiction fun hNG => ?_
  have K0 := Keep.refl h0 []
  have k0 : ∀ t, own_At p e below m s₁ 0 #[.val (.int q0)] [] t → own_En p e below m s₁ #[(.int q0)] 1 t := fun t k => castTop (ef_vo m q0 ) k
  obtain ⟨S_IDENTIFIER, E_IDENTIFIER, S_SYMBOL, E_SYMBOL, F_SYMBOL_ordinal, F_IDENTIFIER_ordinal, S_DIRECTIVE, E_DIRECTIVE, F_DIRECTIVE_ordinal, S_END, E_END, F_END_ordinal, S_FILE_START, E_FILE_START, F_FILE_START_ordinal, S_FILE_END, E_FILE_END, F_FILE_END_ordinal, S_NUMBER, E_NUMBER, F_NUMBER_ordinal, S_LITERAL, E_LITERAL, F_LITERAL_ordinal, S_PRAGMA_PREFIX, E_PRAGMA_PREFIX, F_PRAGMA_PREFIX_ordinal, S_COMPACT_STRINGS, nz_COMPACT_STRINGS, S_SIOOBE_FORMATTER, iS_SIOOBE_FORMATTER⟩ := (id hE : EV Z a_IDENTIFIER a_SYMBOL a_DIRECTIVE a_END a_FILE_START a_FILE_END a_NUMBER a_LITERAL a_PRAGMA_PREFIX z_COMPACT_STRINGS r_SIOOBE_FORMATTER)
  obtain ⟨T1, X1, e1, st1⟩ := getS2 X0 hx hZ hown (host := "") (Or.inl (own_w hw 22 rfl)) Via.refl e0 (S_COMPACT_STRINGS.ext O0.2) (g := (mkF m 0 #[.val (.int q0)] [])) rfl (hb hby d_jdk_42_method_139_code_0)
  obtain ⟨_, _, ⟨T2, L2, k2, n2⟩, -, X2, ⟨Lc2, hQ2, l2, y2, z2⟩, st2⟩ := Jvm.LawKit.callS X1 hx (y := own_m3) hown (mvT hZ (own_w hw 41 rfl)) (mvT hZ (own_w hw 42 rfl)) (mvT hZ (own_w hw 43 rfl)) (mvT hZ (own_w hw 44 rfl)) (by decide) (backOf (W := 0) (rm_ce l Z a0 hw [] q0 _ _ _ _ _ _ _ _ _ _ _ h0 n0 O0 hE hq) hZ (own_w hw 44 rfl) (own_w hw 43 rfl) (by decide) (by decide)) (g := (mkF m 7 #[.val (.int q0)] [(.int q0)])) rfl (by rw [hml]; rfl) (argsL := [(.int q0)]) (rest := []) (lenOf pd__C_Z rfl) rfl (by show 2 * 0 + _ ≤ _; exact Nat.le_of_eq rfl) (hb hby d_jdk_42_method_139_code_7) (fun _ _ => ⟨rfl, e1, (by decide : 0 + 0 ≤ _), (by decide : 0 + 0 ≤ _)⟩)
  dsimp only [Pt.U, Pt.locs, Pt.cells, Pt.slots] at X2 l2 y2 z2 st2 hQ2
  subst l2 y2 z2
  obtain ⟨rfl, N2q, hp2⟩ := hQ2
  have N2 := Fr.app N0 N2q
  obtain ⟨T3, h3, X3, e3, E3, A3, D3, -, st3⟩ := newO X2 hx hZ hown (own_w hw 45 rfl) (own_w hw 10 rfl) (own_w hw 11 rfl) hp2 (g := (mkF m 13 #[.val (.int q0)] [])) rfl (hb hby d_jdk_42_method_139_code_13) (by decide) (by decide)
  obtain ⟨b3, g3⟩ : ∃ z, z = h0.size := ⟨_, rfl⟩
  rw [← g3] at A3 D3 st3
  have O3 := O0.ext E3
  have g_b3 : n0 ≤ b3 := Nat.le_trans (Nat.le_of_eq O0.1.symm) (Nat.le_trans O0.2.1 (Nat.le_of_eq g3.symm))
  have s_b3 : h0.size ≤ b3 := Nat.le_trans K0.1 (Nat.le_of_eq g3.symm)
  have K3 := K0.ext E3
  have lt_b3 := A3.lt
  have F3_coder : Fld Z h3 b3 "java/lang/String" "coder" "B" (.int (0 : Int32)) := D3 (Or.inr (own_w hw 35 rfl)) (ty := .byte) (by decide)
  have F3_value : Fld Z h3 b3 "java/lang/String" "value" "[B" .null := D3 (Or.inr (own_w hw 37 rfl)) (ty := (.array .byte)) (by decide)
  obtain ⟨_, _, ⟨T4, L4, k4, n4⟩, -, X4, ⟨Lc4, hQ4, l4, y4, z4⟩, st4⟩ := Jvm.LawKit.callS X3 hx (y := own_m1) hown (mvT hZ (own_w hw 46 rfl)) (mvT hZ (own_w hw 47 rfl)) (mvT hZ (own_w hw 43 rfl)) (mvT hZ (own_w hw 48 rfl)) (by decide) (backOf (W := 2) (rm_tb l Z a0 hw [] q0 _ _ _ _ _ _ _ _ _ _ _ h3 n0 O3 hE  ) hZ (own_w hw 48 rfl) (own_w hw 43 rfl) (by decide) (by decide)) (g := (mkF m 18 #[.val (.int q0)] [(.int q0), (.ref b3), (.ref b3)])) rfl (by rw [hml]; rfl) (argsL := [(.int q0)]) (rest := [(.ref b3), (.ref b3)]) (lenOf pd__C__B rfl) rfl (by show 2 * 0 + _ ≤ _; exact Nat.le_of_eq rfl) (hb hby d_jdk_42_method_139_code_18) (fun _ _ => ⟨rfl, e3, (by decide : 1 + 1 ≤ _), (by decide : 4 + 1 ≤ _)⟩)
  dsimp only [Pt.U, Pt.locs, Pt.cells, Pt.slots] at X4 l4 y4 z4 st4 hQ4
  subst l4 y4 z4
  obtain ⟨b4, k4, rfl, N4q, O4, Kc4, g_b4, gs_b4, F4_0⟩ := hQ4
  have N4 := Fr.app N2 N4q
  have K4 := K3.trans Kc4 (fun x hx => nomatch hx)
  have s_b4 := Nat.le_trans K3.1 gs_b4
  have lt_b4 := F4_0.lt
  have f5 := (F3_value.keep Kc4 List.not_mem_nil)
  have f6 := (F3_coder.keep Kc4 List.not_mem_nil)
  have f7 := (A3.keep Kc4)
  obtain ⟨_, _, ⟨T8, L8, k8, n8⟩, -, X8, ⟨Lc8, hQ8, l8, y8, z8⟩, st8⟩ := X4.specialBack hx (y := own_m2) rfl hown (mvT hZ (own_w hw 49 rfl)) (mvT hZ (own_w hw 50 rfl)) (mvT hZ (own_w hw 51 rfl)) (by decide) (backOf (W := 1) (rm_si l Z a0 hw [] b3 b4 _ _ _ _ _ _ _ _ _ _ _ T4.heap n0 O4 hE f5 f6 f7 g_b3 ) hZ (own_w hw 51 rfl) (own_w hw 11 rfl) (by decide) (by decide)) (g := (mkF m 22 #[.val (.int q0)] [(.int (0 : Int32)), (.ref b4), (.ref b3), (.ref b3)])) rfl (by rw [hml]; rfl) (Steps.refl _) (a := b3) (argsL := [(.ref b4), (.int (0 : Int32))]) (rest := [(.ref b3)]) (lenOf pd___BB_V rfl) rfl (by show 2 * 0 + _ ≤ _; exact Nat.le_of_eq rfl) (hb hby d_jdk_42_method_139_code_22) (fun _ _ => ⟨rfl, rfl, (by decide : 2 + 0 ≤ _), (by decide : 5 + 0 ≤ _)⟩)
  dsimp only [Pt.U, Pt.locs, Pt.cells, Pt.slots] at X8 l8 y8 z8 st8 hQ8
  subst l8 y8 z8
  obtain ⟨rfl, N8q, O8, Kc8, Ex8, G8_0, G8_1⟩ := hQ8
  have N8 := Fr.app N4 N8q
  have K8 := K4.trans Kc8 (allS (Or.inr s_b3) all0)
  have k9 : ∀ t, own_At p e below m T8 25 #[.val (.int q0)] [(.ref b3)] t → own_En p e below m s₁ #[(.int q0)] 1 t := by
    intro t k
    refine k0 t ?_
    refine st1 _ ?_
    show own_At p e below m T1 3 #[.val (.int q0)] [(.int z_COMPACT_STRINGS)] t
    refine XS.ifNo X1.here hx rfl (hb hby d_jdk_42_method_139_code_3) rfl ((if0 _ _).trans (feq nz_COMPACT_STRINGS).1) ?_
    show own_At p e below m T1 6 #[.val (.int q0)] [] t
    refine XS.iloadN X1.here hx rfl (hb hby d_jdk_42_method_139_code_6) rfl ?_
    show own_At p e below m T1 7 #[.val (.int q0)] [(.int q0)] t
    refine st2 _ ?_
    show own_At p e below m T2 10 #[.val (.int q0)] [(.int (1 : Int32))] t
    refine XS.ifNo X2.here hx rfl (hb hby d_jdk_42_method_139_code_10) rfl ((if0 _ _).trans (feq (by decide : ¬ ((1 : Int32) = (0 : Int32)))).1) ?_
    show own_At p e below m T2 13 #[.val (.int q0)] [] t
    refine st3 _ ?_
    show own_At p e below m T3 16 #[.val (.int q0)] [(.ref b3)] t
    refine XS.dup X3.here hx rfl (hb hby d_jdk_42_method_139_code_16) rfl rfl ?_
    show own_At p e below m T3 17 #[.val (.int q0)] [(.ref b3), (.ref b3)] t
    refine XS.iloadN X3.here hx rfl (hb hby d_jdk_42_method_139_code_17) rfl ?_
    show own_At p e below m T3 18 #[.val (.int q0)] [(.int q0), (.ref b3), (.ref b3)] t
    refine st4 _ ?_
    show own_At p e below m T4 21 #[.val (.int q0)] [(.ref b4), (.ref b3), (.ref b3)] t
    refine XS.iconst X4.here hx rfl (hb hby d_jdk_42_method_139_code_21) ?_
    show own_At p e below m T4 22 #[.val (.int q0)] [(.int (0 : Int32)), (.ref b4), (.ref b3), (.ref b3)] t
    refine st8.trans ?_
    show own_At p e below m T8 25 #[.val (.int q0)] [(.ref b3)] t
    exact k
  have ne10 : ¬ (b4 = b3) := (Ne.symm (Nat.ne_of_lt (Nat.lt_of_lt_of_le lt_b3 gs_b4)))
  have f11 := (F4_0.keep Kc8 (fun q => ne10 (List.mem_singleton.mp q)))
  obtain ⟨fs, hr, hrun, hended, hW, hsame⟩ := X8.leave (v := some (.ref b3)) (fun h => by rw [Bd.returns] at h; cases h)
  refine hNG ⟨_, _, k9 _ ?_, hrun, hended, _, _, rfl, ?_, ⟨_, rfl⟩, hW, hsame.mono (by decide) (by decide)⟩
  · exact retOut X8 hx (t := (.object "java/lang/String")) Bd.returns rfl (Or.inr (Or.inr (Or.inr (Or.inr ⟨rfl, rfl, rfl⟩)))) (hb hby d_jdk_42_method_139_code_25) hr
  · show Q_vo Z q0 a_IDENTIFIER a_SYMBOL a_DIRECTIVE a_END a_FILE_START a_FILE_END a_NUMBER a_LITERAL a_PRAGMA_PREFIX z_COMPACT_STRINGS r_SIOOBE_FORMATTER h0 n0 _ T8.heap _
    exact ⟨b3, b4, k4, rfl, N8, O8, K8, g_b3, s_b3, g_b4, s_b4, (Ne.symm ne10), Ex8, G8_1, G8_0, f11⟩
theorem ef_ti (m : MethodId) (x0 : Addr) (x1 : Addr) (x2 : Addr) (x3 : Addr) (x4 : Int32)  : entryFrame m #[(.ref x0), (.ref x1), (.ref x2), (.ref x3), (.int x4)] 5 = mkF m 0 #[.val (.ref x0), .val (.ref x1), .val (.ref x2), .val (.ref x3), .val (.int x4)] [] := by first | (simp [entryFrame, mkF, argsToLocals, Value.category]; done) | rfl
theorem d_prog_59_method_1_code_0 : decode prog_59_method_1_code 0 = .ok (.aload_n 0, 1) := by decide +kernel
theorem d_prog_59_method_1_code_1 : decode prog_59_method_1_code 1 = .ok (.invokespecial 1, 3) := by decide +kernel
theorem ef_f1 (m : MethodId) (x0 : Addr)  : entryFrame m #[(.ref x0)] 1 = mkF m 0 #[.val (.ref x0)] [] := by first | (simp [entryFrame, mkF, argsToLocals, Value.category]; done) | rfl
theorem d_jdk_30_method_1_code_0 : decode jdk_30_method_1_code 0 = .ok (.aload_n 0, 1) := by decide +kernel
theorem d_jdk_30_method_1_code_1 : decode jdk_30_method_1_code 1 = .ok (.invokespecial 1, 3) := by decide +kernel
theorem d_jdk_30_method_1_code_4 : decode jdk_30_method_1_code 4 = .ok (.return_, 1) := by decide +kernel
theorem pn_java_lang_Record : plainName "java/lang/Record" = true := by first | (simp [plainName, overriddenIn]; done) | decide +kernel
abbrev own_m5 : MethodName := ⟨"java/lang/Record", "<init>", "()V"⟩
def Q_f1 (Z : State) (q0 : Addr) (a_IDENTIFIER : Addr) (a_SYMBOL : Addr) (a_DIRECTIVE : Addr) (a_END : Addr) (a_FILE_START : Addr) (a_FILE_END : Addr) (a_NUMBER : Addr) (a_LITERAL : Addr) (a_PRAGMA_PREFIX : Addr) (z_COMPACT_STRINGS : Int32) (r_SIOOBE_FORMATTER : Value) (h0 : Heap) (n0 : Nat) (v : Option Value) (h : Heap) (L : List Loc) : Prop := v = none ∧ Fr n0 L ∧ h = h0
set_option maxRecDepth 65536 in
set_option maxHeartbeats 40000000 in
theorem rm_f1 (l : Launch) (Z : State) (a0 : Array Value) (hw : ∀ d ∈ tables_1, d.before a0 Z = true) (ws : List Jvm.Cond) (q0 : Addr) (a_IDENTIFIER : Addr) (a_SYMBOL : Addr) (a_DIRECTIVE : Addr) (a_END : Addr) (a_FILE_START : Addr) (a_FILE_END : Addr) (a_NUMBER : Addr) (a_LITERAL : Addr) (a_PRAGMA_PREFIX : Addr) (z_COMPACT_STRINGS : Int32) (r_SIOOBE_FORMATTER : Value) (h0 : Heap) (n0 : Nat) (O0 : Old Z n0 h0) (hE : EV Z a_IDENTIFIER a_SYMBOL a_DIRECTIVE a_END a_FILE_START a_FILE_END a_NUMBER a_LITERAL a_PRAGMA_PREFIX z_COMPACT_STRINGS r_SIOOBE_FORMATTER) :
    MetFree l own_m5 (head1 (Jvm.Cond.code own_m5 jdk_30_method_1_code 1 none :: ws) ({ frames := 1, cells := 0, slots := 0, locals := 12 } : Room)) (fun a U => a = #[(.ref q0)] ∧ Z.Warmed39 U.vm ∧ U.heap = h0) (fun _ _ _ _ _ => True) (fun _ U o U' => ∃ v L, o = .returned v ∧ Q_f1 Z q0 a_IDENTIFIER a_SYMBOL a_DIRECTIVE a_END a_FILE_START a_FILE_END a_NUMBER a_LITERAL a_PRAGMA_PREFIX z_COMPACT_STRINGS r_SIOOBE_FORMATTER h0 n0 v U'.heap L ∧ FrameEnd U o U' L ({ frames := 1, cells := 0, slots := 0, locals := 12 } : Room).cells ({ frames := 1, cells := 0, slots := 0, locals := 12 } : Room).slots) := by
  refine MetFree.of_bodySF (plainFor_of_name pn_java_lang_Record) hisR ?_
  intro p e s m args below meth c s₁ Bd hml0 hP hK
  obtain ⟨rfl, hZ, hh⟩ := hP
  have hx := Bd.exec
  have hby := Bd.bytes
  have hml : c.maxLocals = 1 := hml0
  have hown : s.vm.findClass "java/lang/Record" = some m.cls := findClass_of_methodNamed Bd.named
  have hnm := (name_of_methodNamed Bd.named Bd.method).1
  have X0 : Stand p l e ({ frames := 1, cells := 0, slots := 0, locals := 12 } : Room) s m #[(.ref q0)] below meth c s₁ [] 0 0 := Stand.of_body Bd
  have e0 : s₁.heap = h0 := by rw [← hh, Bd.state]; rfl
  have N0 := Fr.nil n0
  refine Classical.byContradiction fun hNG => ?_
  have K0 := Keep.refl h0 []
  have k0 : ∀ t, own_At p e below m s₁ 0 #[.val (.ref q0)] [] t → own_En p e below m s₁ #[(.ref q0)] 1 t := fun t k => castTop (ef_f1 m q0 ) k
  obtain ⟨S_IDENTIFIER, E_IDENTIFIER, S_SYMBOL, E_SYMBOL, F_SYMBOL_ordinal, F_IDENTIFIER_ordinal, S_DIRECTIVE, E_DIRECTIVE, F_DIRECTIVE_ordinal, S_END, E_END, F_END_ordinal, S_FILE_START, E_FILE_START, F_FILE_START_ordinal, S_FILE_END, E_FILE_END, F_FILE_END_ordinal, S_NUMBER, E_NUMBER, F_NUMBER_ordinal, S_LITERAL, E_LITERAL, F_LITERAL_ordinal, S_PRAGMA_PREFIX, E_PRAGMA_PREFIX, F_PRAGMA_PREFIX_ordinal, S_COMPACT_STRINGS, nz_COMPACT_STRINGS, S_SIOOBE_FORMATTER, iS_SIOOBE_FORMATTER⟩ := (id hE : EV Z a_IDENTIFIER a_SYMBOL a_DIRECTIVE a_END a_FILE_START a_FILE_END a_NUMBER a_LITERAL a_PRAGMA_PREFIX z_COMPACT_STRINGS r_SIOOBE_FORMATTER)
  obtain ⟨T1, X1, e1, st1⟩ := initO X0 hx hZ hown (own_w hw 63 rfl) (own_w hw 20 rfl) (own_w hw 21 rfl) e0 (g := (mkF m 1 #[.val (.ref q0)] [(.ref q0)])) rfl (by rw [hml]; rfl) rfl (hb hby d_jdk_30_method_1_code_1) (by decide) (W := 0) (by show 2 * 0 + _ ≤ _; exact Nat.le_of_eq rfl) (by decide)
  have k2 : ∀ t, own_At p e below m T1 4 #[.val (.ref q0)] [] t → own_En p e below m s₁ #[(.ref q0)] 1 t := by
    intro t k
    refine k0 t ?_
    refine XS.aloadN X0.here hx rfl (hb hby d_jdk_30_method_1_code_0) rfl rfl ?_
    show own_At p e below m s₁ 1 #[.val (.ref q0)] [(.ref q0)] t
    refine st1 _ ?_
    show own_At p e below m T1 4 #[.val (.ref q0)] [] t
    exact k
  obtain ⟨fs, hr, hrun, hended, hW, hsame⟩ := X1.leave (v := none) (fun _ => rfl)
  refine hNG ⟨_, _, k2 _ ?_, hrun, hended, _, _, rfl, ?_, ⟨_, rfl⟩, hW, hsame.mono (by decide) (by decide)⟩
  · exact X1.returnOut hx Bd.returns (hb hby d_jdk_30_method_1_code_4) hr
  · show Q_f1 Z q0 a_IDENTIFIER a_SYMBOL a_DIRECTIVE a_END a_FILE_START a_FILE_END a_NUMBER a_LITERAL a_PRAGMA_PREFIX z_COMPACT_STRINGS r_SIOOBE_FORMATTER h0 n0 _ T1.heap _
    rw [e1]
    exact ⟨rfl, N0, rfl⟩
theorem pd___V : parseMethodDescriptor "()V" = some ⟨[], none⟩ := by decide +kernel
theorem d_prog_59_method_1_code_4 : decode prog_59_method_1_code 4 = .ok (.aload_n 0, 1) := by decide +kernel
theorem d_prog_59_method_1_code_5 : decode prog_59_method_1_code 5 = .ok (.aload_n 1, 1) := by decide +kernel
theorem d_prog_59_method_1_code_6 : decode prog_59_method_1_code 6 = .ok (.putfield 7, 3) := by decide +kernel
theorem d_prog_59_method_1_code_9 : decode prog_59_method_1_code 9 = .ok (.aload_n 0, 1) := by decide +kernel
theorem d_prog_59_method_1_code_10 : decode prog_59_method_1_code 10 = .ok (.aload_n 2, 1) := by decide +kernel
theorem d_prog_59_method_1_code_11 : decode prog_59_method_1_code 11 = .ok (.putfield 13, 3) := by decide +kernel
theorem d_prog_59_method_1_code_14 : decode prog_59_method_1_code 14 = .ok (.aload_n 0, 1) := by decide +kernel
theorem d_prog_59_method_1_code_15 : decode prog_59_method_1_code 15 = .ok (.aload_n 3, 1) := by decide +kernel
theorem d_prog_59_method_1_code_16 : decode prog_59_method_1_code 16 = .ok (.putfield 17, 3) := by decide +kernel
theorem d_prog_59_method_1_code_19 : decode prog_59_method_1_code 19 = .ok (.aload_n 0, 1) := by decide +kernel
theorem d_prog_59_method_1_code_20 : decode prog_59_method_1_code 20 = .ok (.iload 4, 2) := by decide +kernel
theorem d_prog_59_method_1_code_22 : decode prog_59_method_1_code 22 = .ok (.putfield 20, 3) := by decide +kernel
theorem d_prog_59_method_1_code_25 : decode prog_59_method_1_code 25 = .ok (.return_, 1) := by decide +kernel
theorem pn_com_example_gate3_gate3_io_Token : plainName "com/example/gate3/gate3/io/Token" = true := by first | (simp [plainName, overriddenIn]; done) | decide +kernel
abbrev own_m6 : MethodName := ⟨"com/example/gate3/gate3/io/Token", "<init>", "(Lcom/example/gate3/gate3/io/Token$Kind;Ljava/lang/String;Ljava/lang/String;I)V"⟩
def Q_ti (Z : State) (a1 : Addr) (r2 : Addr) (r3 : Addr) (r4 : Addr) (p5 : Int32) (a_IDENTIFIER : Addr) (a_SYMBOL : Addr) (a_DIRECTIVE : Addr) (a_END : Addr) (a_FILE_START : Addr) (a_FILE_END : Addr) (a_NUMBER : Addr) (a_LITERAL : Addr) (a_PRAGMA_PREFIX : Addr) (z_COMPACT_STRINGS : Int32) (r_SIOOBE_FORMATTER : Value) (h0 : Heap) (n0 : Nat) (v : Option Value) (h : Heap) (L : List Loc) : Prop := v = none ∧ Fr n0 L ∧ Old Z n0 h ∧ Keep h0 h [a1] ∧ Exa Z h a1 "com/example/gate3/gate3/io/Token" ∧ Fld Z h a1 "com/example/gate3/gate3/io/Token" "kind" "Lcom/example/gate3/gate3/io/Token$Kind;" (.ref r2) ∧ Fld Z h a1 "com/example/gate3/gate3/io/Token" "text" "Ljava/lang/String;" (.ref r3) ∧ Fld Z h a1 "com/example/gate3/gate3/io/Token" "source" "Ljava/lang/String;" (.ref r4) ∧ Fld Z h a1 "com/example/gate3/gate3/io/Token" "line" "I" (.int p5)
set_option maxRecDepth 65536 in
set_option maxHeartbeats 40000000 in
theorem rm_ti (l : Launch) (Z : State) (a0 : Array Value) (hw : ∀ d ∈ tables_1, d.before a0 Z = true) (ws : List Jvm.Cond) (a1 : Addr) (r2 : Addr) (r3 : Addr) (r4 : Addr) (p5 : Int32) (a_IDENTIFIER : Addr) (a_SYMBOL : Addr) (a_DIRECTIVE : Addr) (a_END : Addr) (a_FILE_START : Addr) (a_FILE_END : Addr) (a_NUMBER : Addr) (a_LITERAL : Addr) (a_PRAGMA_PREFIX : Addr) (z_COMPACT_STRINGS : Int32) (r_SIOOBE_FORMATTER : Value) (h0 : Heap) (n0 : Nat) (O0 : Old Z n0 h0) (hE : EV Z a_IDENTIFIER a_SYMBOL a_DIRECTIVE a_END a_FILE_START a_FILE_END a_NUMBER a_LITERAL a_PRAGMA_PREFIX z_COMPACT_STRINGS r_SIOOBE_FORMATTER) (F_kind : Fld Z h0 a1 "com/example/gate3/gate3/io/Token" "kind" "Lcom/example/gate3/gate3/io/Token$Kind;" .null) (F_text : Fld Z h0 a1 "com/example/gate3/gate3/io/Token" "text" "Ljava/lang/String;" .null) (F_source : Fld Z h0 a1 "com/example/gate3/gate3/io/Token" "source" "Ljava/lang/String;" .null) (F_line : Fld Z h0 a1 "com/example/gate3/gate3/io/Token" "line" "I" (.int (0 : Int32))) (E_a1 : Exa Z h0 a1 "com/example/gate3/gate3/io/Token") (g_a1 : n0 ≤ a1) :
    MetFree l own_m6 (head1 (Jvm.Cond.code own_m6 prog_59_method_1_code 5 none :: ws) ({ frames := 2, cells := 0, slots := 0, locals := 24 } : Room)) (fun a U => a = #[(.ref a1), (.ref r2), (.ref r3), (.ref r4), (.int p5)] ∧ Z.Warmed39 U.vm ∧ U.heap = h0) (fun _ _ _ _ _ => True) (fun _ U o U' => ∃ v L, o = .returned v ∧ Q_ti Z a1 r2 r3 r4 p5 a_IDENTIFIER a_SYMBOL a_DIRECTIVE a_END a_FILE_START a_FILE_END a_NUMBER a_LITERAL a_PRAGMA_PREFIX z_COMPACT_STRINGS r_SIOOBE_FORMATTER h0 n0 v U'.heap L ∧ FrameEnd U o U' L ({ frames := 2, cells := 0, slots := 0, locals := 24 } : Room).cells ({ frames := 2, cells := 0, slots := 0, locals := 24 } : Room).slots) := by
  refine MetFree.of_bodySF (plainFor_of_name pn_com_example_gate3_gate3_io_Token) hisR ?_
  intro p e s m args below meth c s₁ Bd hml0 hP hK
  obtain ⟨rfl, hZ, hh⟩ := hP
  have hx := Bd.exec
  have hby := Bd.bytes
  have hml : c.maxLocals = 5 := hml0
  have hown : s.vm.findClass "com/example/gate3/gate3/io/Token" = some m.cls := findClass_of_methodNamed Bd.named
  have hnm := (name_of_methodNamed Bd.named Bd.method).1
  have X0 : Stand p l e ({ frames := 2, cells := 0, slots := 0, locals := 24 } : Room) s m #[(.ref a1), (.ref r2), (.ref r3), (.ref r4), (.int p5)] below meth c s₁ [] 0 0 := Stand.of_body Bd
  have e0 : s₁.heap = h0 := by rw [← hh, Bd.state]; rfl
  have N0 := Fr.nil n0
  refine Classical.byContradiction fun hNG => ?_
  have K0 := Keep.refl h0 [a1]
  have k0 : ∀ t, own_At p e below m s₁ 0 #[.val (.ref a1), .val (.ref r2), .val (.ref r3), .val (.ref r4), .val (.int p5)] [] t → own_En p e below m s₁ #[(.ref a1), (.ref r2), (.ref r3), (.ref r4), (.int p5)] 5 t := fun t k => castTop (ef_ti m a1 r2 r3 r4 p5 ) k
  obtain ⟨S_IDENTIFIER, E_IDENTIFIER, S_SYMBOL, E_SYMBOL, F_SYMBOL_ordinal, F_IDENTIFIER_ordinal, S_DIRECTIVE, E_DIRECTIVE, F_DIRECTIVE_ordinal, S_END, E_END, F_END_ordinal, S_FILE_START, E_FILE_START, F_FILE_START_ordinal, S_FILE_END, E_FILE_END, F_FILE_END_ordinal, S_NUMBER, E_NUMBER, F_NUMBER_ordinal, S_LITERAL, E_LITERAL, F_LITERAL_ordinal, S_PRAGMA_PREFIX, E_PRAGMA_PREFIX, F_PRAGMA_PREFIX_ordinal, S_COMPACT_STRINGS, nz_COMPACT_STRINGS, S_SIOOBE_FORMATTER, iS_SIOOBE_FORMATTER⟩ := (id hE : EV Z a_IDENTIFIER a_SYMBOL a_DIRECTIVE a_END a_FILE_START a_FILE_END a_NUMBER a_LITERAL a_PRAGMA_PREFIX z_COMPACT_STRINGS r_SIOOBE_FORMATTER)
  obtain ⟨_, _, ⟨T1, L1, k1, n1⟩, -, X1, ⟨Lc1, hQ1, l1, y1, z1⟩, st1⟩ := X0.specialBack hx (y := own_m5) rfl hown (mvT hZ (own_w hw 58 rfl)) (mvT hZ (own_w hw 59 rfl)) (mvT hZ (own_w hw 62 rfl)) (by decide) (backOf (W := 0) (rm_f1 l Z a0 hw [] a1 _ _ _ _ _ _ _ _ _ _ _ h0 n0 O0 hE) hZ (own_w hw 62 rfl) (own_w hw 61 rfl) (by decide) (by decide)) (g := (mkF m 1 #[.val (.ref a1), .val (.ref r2), .val (.ref r3), .val (.ref r4), .val (.int p5)] [(.ref a1)])) rfl (by rw [hml]; rfl) (Steps.refl _) (a := a1) (argsL := []) (rest := []) (lenOf pd___V rfl) rfl (by show 2 * 0 + _ ≤ _; exact Nat.le_of_eq rfl) (hb hby d_prog_59_method_1_code_1) (fun _ _ => ⟨rfl, e0, (by decide : 0 + 0 ≤ _), (by decide : 0 + 0 ≤ _)⟩)
  dsimp only [Pt.U, Pt.locs, Pt.cells, Pt.slots] at X1 l1 y1 z1 st1 hQ1
  subst l1 y1 z1
  obtain ⟨rfl, N1q, hp1⟩ := hQ1
  have N1 := Fr.app N0 N1q
  obtain ⟨T2, h2, X2, e2, W2, st2⟩ := putF X1 hx hZ hown (host := "") (Or.inl (own_w hw 64 rfl)) Via.refl hp1 F_kind E_a1 (Or.inr ⟨(own_w hw 65 rfl), rfl, hnm⟩) (own_w hw 53 rfl) (ty := (.object "com/example/gate3/gate3/io/Token$Kind")) (by decide) rfl rfl (g := (mkF m 6 #[.val (.ref a1), .val (.ref r2), .val (.ref r3), .val (.ref r4), .val (.int p5)] [(.ref r2), (.ref a1)])) rfl rfl (hb hby d_prog_59_method_1_code_6)
  have F2_kind := F_kind.same W2
  have N2 := Fr.snoc X2 N1 g_a1
  have O2 := O0.wr W2 g_a1
  have K2 := K0.wr W2 (Or.inl (List.mem_of_getElem? (i := 0) rfl))
  have f3 := (E_a1.wr W2)
  have f4 := (F_text.other W2 (Or.inr (slot_ne (Or.inr (own_w hw 67 rfl)) (Or.inr (own_w hw 65 rfl)) (by decide) (t := (.object "java/lang/String")) (t' := (.object "com/example/gate3/gate3/io/Token$Kind")) (by decide) (by decide))))
  obtain ⟨T5, h5, X5, e5, W5, st5⟩ := putF X2 hx hZ hown (host := "") (Or.inl (own_w hw 66 rfl)) Via.refl e2 f4 f3 (Or.inr ⟨(own_w hw 67 rfl), rfl, hnm⟩) (own_w hw 53 rfl) (ty := (.object "java/lang/String")) (by decide) rfl rfl (g := (mkF m 11 #[.val (.ref a1), .val (.ref r2), .val (.ref r3), .val (.ref r4), .val (.int p5)] [(.ref r3), (.ref a1)])) rfl rfl (hb hby d_prog_59_method_1_code_11)
  have F5_text := f4.same W5
  have N5 := Fr.snoc X5 N2 g_a1
  have O5 := O2.wr W5 g_a1
  have K5 := K2.wr W5 (Or.inl (List.mem_of_getElem? (i := 0) rfl))
  have f6 := (f3.wr W5)
  have f7 := ((F_source.other W2 (Or.inr (slot_ne (Or.inr (own_w hw 69 rfl)) (Or.inr (own_w hw 65 rfl)) (by decide) (t := (.object "java/lang/String")) (t' := (.object "com/example/gate3/gate3/io/Token$Kind")) (by decide) (by decide)))).other W5 (Or.inr (slot_ne (Or.inr (own_w hw 69 rfl)) (Or.inr (own_w hw 67 rfl)) (by decide) (t := (.object "java/lang/String")) (t' := (.object "java/lang/String")) (by decide) (by decide))))
  obtain ⟨T8, h8, X8, e8, W8, st8⟩ := putF X5 hx hZ hown (host := "") (Or.inl (own_w hw 68 rfl)) Via.refl e5 f7 f6 (Or.inr ⟨(own_w hw 69 rfl), rfl, hnm⟩) (own_w hw 53 rfl) (ty := (.object "java/lang/String")) (by decide) rfl rfl (g := (mkF m 16 #[.val (.ref a1), .val (.ref r2), .val (.ref r3), .val (.ref r4), .val (.int p5)] [(.ref r4), (.ref a1)])) rfl rfl (hb hby d_prog_59_method_1_code_16)
  have F8_source := f7.same W8
  have N8 := Fr.snoc X8 N5 g_a1
  have O8 := O5.wr W8 g_a1
  have K8 := K5.wr W8 (Or.inl (List.mem_of_getElem? (i := 0) rfl))
  have f9 := (f6.wr W8)
  have f10 := (((F_line.other W2 (Or.inr (slot_ne (Or.inr (own_w hw 71 rfl)) (Or.inr (own_w hw 65 rfl)) (by decide) (t := .int) (t' := (.object "com/example/gate3/gate3/io/Token$Kind")) (by decide) (by decide)))).other W5 (Or.inr (slot_ne (Or.inr (own_w hw 71 rfl)) (Or.inr (own_w hw 67 rfl)) (by decide) (t := .int) (t' := (.object "java/lang/String")) (by decide) (by decide)))).other W8 (Or.inr (slot_ne (Or.inr (own_w hw 71 rfl)) (Or.inr (own_w hw 69 rfl)) (by decide) (t := .int) (t' := (.object "java/lang/String")) (by decide) (by decide))))
  obtain ⟨T11, h11, X11, e11, W11, st11⟩ := putF X8 hx hZ hown (host := "") (Or.inl (own_w hw 70 rfl)) Via.refl e8 f10 f9 (Or.inr ⟨(own_w hw 71 rfl), rfl, hnm⟩) (own_w hw 53 rfl) (ty := .int) (by decide) rfl rfl (g := (mkF m 22 #[.val (.ref a1), .val (.ref r2), .val (.ref r3), .val (.ref r4), .val (.int p5)] [(.int p5), (.ref a1)])) rfl rfl (hb hby d_prog_59_method_1_code_22)
  have F11_line := f10.same W11
  have N11 := Fr.snoc X11 N8 g_a1
  have O11 := O8.wr W11 g_a1
  have K11 := K8.wr W11 (Or.inl (List.mem_of_getElem? (i := 0) rfl))
  have k12 : ∀ t, own_At p e below m T11 25 #[.val (.ref a1), .val (.ref r2), .val (.ref r3), .val (.ref r4), .val (.int p5)] [] t → own_En p e below m s₁ #[(.ref a1), (.ref r2), (.ref r3), (.ref r4), (.int p5)] 5 t := by
    intro t k
    refine k0 t ?_
    refine XS.aloadN X0.here hx rfl (hb hby d_prog_59_method_1_code_0) rfl rfl ?_
    show own_At p e below m s₁ 1 #[.val (.ref a1), .val (.ref r2), .val (.ref r3), .val (.ref r4), .val (.int p5)] [(.ref a1)] t
    refine st1.trans ?_
    show own_At p e below m T1 4 #[.val (.ref a1), .val (.ref r2), .val (.ref r3), .val (.ref r4), .val (.int p5)] [] t
    refine XS.aloadN X1.here hx rfl (hb hby d_prog_59_method_1_code_4) rfl rfl ?_
    show own_At p e below m T1 5 #[.val (.ref a1), .val (.ref r2), .val (.ref r3), .val (.ref r4), .val (.int p5)] [(.ref a1)] t
    refine XS.aloadN X1.here hx rfl (hb hby d_prog_59_method_1_code_5) rfl rfl ?_
    show own_At p e below m T1 6 #[.val (.ref a1), .val (.ref r2), .val (.ref r3), .val (.ref r4), .val (.int p5)] [(.ref r2), (.ref a1)] t
    refine st2 _ ?_
    show own_At p e below m T2 9 #[.val (.ref a1), .val (.ref r2), .val (.ref r3), .val (.ref r4), .val (.int p5)] [] t
    refine XS.aloadN X2.here hx rfl (hb hby d_prog_59_method_1_code_9) rfl rfl ?_
    show own_At p e below m T2 10 #[.val (.ref a1), .val (.ref r2), .val (.ref r3), .val (.ref r4), .val (.int p5)] [(.ref a1)] t
    refine XS.aloadN X2.here hx rfl (hb hby d_prog_59_method_1_code_10) rfl rfl ?_
    show own_At p e below m T2 11 #[.val (.ref a1), .val (.ref r2), .val (.ref r3), .val (.ref r4), .val (.int p5)] [(.ref r3), (.ref a1)] t
    refine st5 _ ?_
    show own_At p e below m T5 14 #[.val (.ref a1), .val (.ref r2), .val (.ref r3), .val (.ref r4), .val (.int p5)] [] t
    refine XS.aloadN X5.here hx rfl (hb hby d_prog_59_method_1_code_14) rfl rfl ?_
    show own_At p e below m T5 15 #[.val (.ref a1), .val (.ref r2), .val (.ref r3), .val (.ref r4), .val (.int p5)] [(.ref a1)] t
    refine XS.aloadN X5.here hx rfl (hb hby d_prog_59_method_1_code_15) rfl rfl ?_
    show own_At p e below m T5 16 #[.val (.ref a1), .val (.ref r2), .val (.ref r3), .val (.ref r4), .val (.int p5)] [(.ref r4), (.ref a1)] t
    refine st8 _ ?_
    show own_At p e below m T8 19 #[.val (.ref a1), .val (.ref r2), .val (.ref r3), .val (.ref r4), .val (.int p5)] [] t
    refine XS.aloadN X8.here hx rfl (hb hby d_prog_59_method_1_code_19) rfl rfl ?_
    show own_At p e below m T8 20 #[.val (.ref a1), .val (.ref r2), .val (.ref r3), .val (.ref r4), .val (.int p5)] [(.ref a1)] t
    refine XS.iload X8.here hx rfl (hb hby d_prog_59_method_1_code_20) rfl ?_
    show own_At p e below m T8 22 #[.val (.ref a1), .val (.ref r2), .val (.ref r3), .val (.ref r4), .val (.int p5)] [(.int p5), (.ref a1)] t
    refine st11 _ ?_
    show own_At p e below m T11 25 #[.val (.ref a1), .val (.ref r2), .val (.ref r3), .val (.ref r4), .val (.int p5)] [] t
    exact k
  have f13 := (((F2_kind.other W5 (Or.inr (slot_ne (Or.inr (own_w hw 65 rfl)) (Or.inr (own_w hw 67 rfl)) (by decide) (t := (.object "com/example/gate3/gate3/io/Token$Kind")) (t' := (.object "java/lang/String")) (by decide) (by decide)))).other W8 (Or.inr (slot_ne (Or.inr (own_w hw 65 rfl)) (Or.inr (own_w hw 69 rfl)) (by decide) (t := (.object "com/example/gate3/gate3/io/Token$Kind")) (t' := (.object "java/lang/String")) (by decide) (by decide)))).other W11 (Or.inr (slot_ne (Or.inr (own_w hw 65 rfl)) (Or.inr (own_w hw 71 rfl)) (by decide) (t := (.object "com/example/gate3/gate3/io/Token$Kind")) (t' := .int) (by decide) (by decide))))
  have f14 := ((F5_text.other W8 (Or.inr (slot_ne (Or.inr (own_w hw 67 rfl)) (Or.inr (own_w hw 69 rfl)) (by decide) (t := (.object "java/lang/String")) (t' := (.object "java/lang/String")) (by decide) (by decide)))).other W11 (Or.inr (slot_ne (Or.inr (own_w hw 67 rfl)) (Or.inr (own_w hw 71 rfl)) (by decide) (t := (.object "java/lang/String")) (t' := .int) (by decide) (by decide))))
  have f15 := (F8_source.other W11 (Or.inr (slot_ne (Or.inr (own_w hw 69 rfl)) (Or.inr (own_w hw 71 rfl)) (by decide) (t := (.object "java/lang/String")) (t' := .int) (by decide) (by decide))))
  have f16 := (f9.wr W11)
  obtain ⟨fs, hr, hrun, hended, hW, hsame⟩ := X11.leave (v := none) (fun _ => rfl)
  refine hNG ⟨_, _, k12 _ ?_, hrun, hended, _, _, rfl, ?_, ⟨_, rfl⟩, hW, hsame.mono (by decide) (by decide)⟩
  · exact X11.returnOut hx Bd.returns (hb hby d_prog_59_method_1_code_25) hr
  · show Q_ti Z a1 r2 r3 r4 p5 a_IDENTIFIER a_SYMBOL a_DIRECTIVE a_END a_FILE_START a_FILE_END a_NUMBER a_LITERAL a_PRAGMA_PREFIX z_COMPACT_STRINGS r_SIOOBE_FORMATTER h0 n0 _ T11.heap _
    rw [e11]
    exact ⟨rfl, N11, O11, K11, f16, f13, f14, f15, F11_line⟩
theorem ef_isi_t (m : MethodId) (x0 : Addr)  : entryFrame m #[(.ref x0)] 1 = mkF m 0 #[.val (.ref x0)] [] := by first | (simp [entryFrame, mkF, argsToLocals, Value.category]; done) | rfl
theorem d_prog_59_method_3_code_0 : decode prog_59_method_3_code 0 = .ok (.aload_n 0, 1) := by decide +kernel
theorem d_prog_59_method_3_code_1 : decode prog_59_method_3_code 1 = .ok (.getfield 7, 3) := by decide +kernel
theorem d_prog_59_method_3_code_4 : decode prog_59_method_3_code 4 = .ok (.getstatic 24, 3) := by decide +kernel
theorem d_prog_59_method_3_code_7 : decode prog_59_method_3_code 7 = .ok (.if_acmp .ne 7, 3) := by decide +kernel
theorem d_prog_59_method_3_code_10 : decode prog_59_method_3_code 10 = .ok (.iconst 1, 1) := by decide +kernel
theorem d_prog_59_method_3_code_11 : decode prog_59_method_3_code 11 = .ok (.goto 4, 3) := by decide +kernel
theorem d_prog_59_method_3_code_15 : decode prog_59_method_3_code 15 = .ok (.ireturn, 1) := by decide +kernel
abbrev own_m7 : MethodName := ⟨"com/example/gate3/gate3/io/Token", "isIdentifier", "()Z"⟩
def Q_isi_t (Z : State) (q0 : Addr) (a_IDENTIFIER : Addr) (a_SYMBOL : Addr) (a_DIRECTIVE : Addr) (a_END : Addr) (a_FILE_START : Addr) (a_FILE_END : Addr) (a_NUMBER : Addr) (a_LITERAL : Addr) (a_PRAGMA_PREFIX : Addr) (z_COMPACT_STRINGS : Int32) (r_SIOOBE_FORMATTER : Value) (h0 : Heap) (n0 : Nat) (v : Option Value) (h : Heap) (L : List Loc) : Prop := v = some (.int (1 : Int32)) ∧ Fr n0 L ∧ h = h0
set_option maxRecDepth 65536 in
set_option maxHeartbeats 40000000 in
theorem rm_isi_t (l : Launch) (Z : State) (a0 : Array Value) (hw : ∀ d ∈ tables_1, d.before a0 Z = true) (ws : List Jvm.Cond) (q0 : Addr) (a_IDENTIFIER : Addr) (a_SYMBOL : Addr) (a_DIRECTIVE : Addr) (a_END : Addr) (a_FILE_START : Addr) (a_FILE_END : Addr) (a_NUMBER : Addr) (a_LITERAL : Addr) (a_PRAGMA_PREFIX : Addr) (z_COMPACT_STRINGS : Int32) (r_SIOOBE_FORMATTER : Value) (h0 : Heap) (n0 : Nat) (O0 : Old Z n0 h0) (hE : EV Z a_IDENTIFIER a_SYMBOL a_DIRECTIVE a_END a_FILE_START a_FILE_END a_NUMBER a_LITERAL a_PRAGMA_PREFIX z_COMPACT_STRINGS r_SIOOBE_FORMATTER) (P0 : Fld Z h0 q0 "com/example/gate3/gate3/io/Token" "kind" "Lcom/example/gate3/gate3/io/Token$Kind;" (.ref a_IDENTIFIER)) :
    MetFree l own_m7 (head1 (Jvm.Cond.code own_m7 prog_59_method_3_code 1 (some .boolean) :: ws) ({ frames := 0, cells := 0, slots := 0, locals := 0 } : Room)) (fun a U => a = #[(.ref q0)] ∧ Z.Warmed39 U.vm ∧ U.heap = h0) (fun _ _ _ _ _ => True) (fun _ U o U' => ∃ v L, o = .returned v ∧ Q_isi_t Z q0 a_IDENTIFIER a_SYMBOL a_DIRECTIVE a_END a_FILE_START a_FILE_END a_NUMBER a_LITERAL a_PRAGMA_PREFIX z_COMPACT_STRINGS r_SIOOBE_FORMATTER h0 n0 v U'.heap L ∧ FrameEnd U o U' L ({ frames := 0, cells := 0, slots := 0, locals := 0 } : Room).cells ({ frames := 0, cells := 0, slots := 0, locals := 0 } : Room).slots) := by
  refine MetFree.of_bodySF (plainFor_of_name pn_com_example_gate3_gate3_io_Token) hisR ?_
  intro p e s m args below meth c s₁ Bd hml0 hP hK
  obtain ⟨rfl, hZ, hh⟩ := hP
  have hx := Bd.exec
  have hby := Bd.bytes
  have hml : c.maxLocals = 1 := hml0
  have hown : s.vm.findClass "com/example/gate3/gate3/io/Token" = some m.cls := findClass_of_methodNamed Bd.named
  have hnm := (name_of_methodNamed Bd.named Bd.method).1
  have X0 : Stand p l e ({ frames := 0, cells := 0, slots := 0, locals := 0 } : Room) s m #[(.ref q0)] below meth c s₁ [] 0 0 := Stand.of_body Bd
  have e0 : s₁.heap = h0 := by rw [← hh, Bd.state]; rfl
  have N0 := Fr.nil n0
  refine Classical.byContradiction fun hNG => ?_
  have K0 := Keep.refl h0 []
  have k0 : ∀ t, own_At p e below m s₁ 0 #[.val (.ref q0)] [] t → own_En p e below m s₁ #[(.ref q0)] 1 t := fun t k => castTop (ef_isi_t m q0 ) k
  obtain ⟨S_IDENTIFIER, E_IDENTIFIER, S_SYMBOL, E_SYMBOL, F_SYMBOL_ordinal, F_IDENTIFIER_ordinal, S_DIRECTIVE, E_DIRECTIVE, F_DIRECTIVE_ordinal, S_END, E_END, F_END_ordinal, S_FILE_START, E_FILE_START, F_FILE_START_ordinal, S_FILE_END, E_FILE_END, F_FILE_END_ordinal, S_NUMBER, E_NUMBER, F_NUMBER_ordinal, S_LITERAL, E_LITERAL, F_LITERAL_ordinal, S_PRAGMA_PREFIX, E_PRAGMA_PREFIX, F_PRAGMA_PREFIX_ordinal, S_COMPACT_STRINGS, nz_COMPACT_STRINGS, S_SIOOBE_FORMATTER, iS_SIOOBE_FORMATTER⟩ := (id hE : EV Z a_IDENTIFIER a_SYMBOL a_DIRECTIVE a_END a_FILE_START a_FILE_END a_NUMBER a_LITERAL a_PRAGMA_PREFIX z_COMPACT_STRINGS r_SIOOBE_FORMATTER)
  obtain ⟨T1, X1, e1, st1⟩ := getF X0 hx hZ hown (host := "") (Or.inl (own_w hw 64 rfl)) Via.refl e0 P0 (g := (mkF m 1 #[.val (.ref q0)] [(.ref q0)])) rfl rfl (hb hby d_prog_59_method_3_code_1)
  obtain ⟨T2, X2, e2, st2⟩ := getS2 X1 hx hZ hown (host := "") (Or.inl (own_w hw 77 rfl)) Via.refl e1 (S_IDENTIFIER.ext O0.2) (g := (mkF m 4 #[.val (.ref q0)] [(.ref a_IDENTIFIER)])) rfl (hb hby d_prog_59_method_3_code_4)
  have k3 : ∀ t, own_At p e below m T2 15 #[.val (.ref q0)] [(.int (1 : Int32))] t → own_En p e below m s₁ #[(.ref q0)] 1 t := by
    intro t k
    refine k0 t ?_
    refine XS.aloadN X0.here hx rfl (hb hby d_prog_59_method_3_code_0) rfl rfl ?_
    show own_At p e below m s₁ 1 #[.val (.ref q0)] [(.ref q0)] t
    refine st1 _ ?_
    show own_At p e below m T1 4 #[.val (.ref q0)] [(.ref a_IDENTIFIER)] t
    refine st2 _ ?_
    show own_At p e below m T2 7 #[.val (.ref q0)] [(.ref a_IDENTIFIER), (.ref a_IDENTIFIER)] t
    refine Jvm.RoadKit.acmp (g := (mkF m 7 #[.val (.ref q0)] [(.ref a_IDENTIFIER), (.ref a_IDENTIFIER)])) X2 hx rfl rfl rfl (pc0 := 7) (pc' := 10) (same := true) rfl (hb hby d_prog_59_method_3_code_7) rfl (decide_eq_true rfl) (by decide) (by decide) ?_
    show own_At p e below m T2 10 #[.val (.ref q0)] [] t
    refine XS.iconst X2.here hx rfl (hb hby d_prog_59_method_3_code_10) ?_
    show own_At p e below m T2 11 #[.val (.ref q0)] [(.int (1 : Int32))] t
    refine XS.goto X2.here hx rfl (pc0 := 11) (pc' := 15) rfl (hb hby d_prog_59_method_3_code_11) (by decide) (by decide) ?_
    show own_At p e below m T2 15 #[.val (.ref q0)] [(.int (1 : Int32))] t
    exact k
  obtain ⟨fs, hr, hrun, hended, hW, hsame⟩ := X2.leave (v := some (.int (1 : Int32))) (fun h => by rw [Bd.returns] at h; cases h)
  refine hNG ⟨_, _, k3 _ ?_, hrun, hended, _, _, rfl, ?_, ⟨_, rfl⟩, hW, hsame.mono (by decide) (by decide)⟩
  · exact retN X2 hx (t := .boolean) Bd.returns (by simp) (hb hby d_prog_59_method_3_code_15) hr
  · show Q_isi_t Z q0 a_IDENTIFIER a_SYMBOL a_DIRECTIVE a_END a_FILE_START a_FILE_END a_NUMBER a_LITERAL a_PRAGMA_PREFIX z_COMPACT_STRINGS r_SIOOBE_FORMATTER h0 n0 _ T2.heap _
    rw [e2]
    exact ⟨rfl, N0, rfl⟩
theorem ef_isi_f (m : MethodId) (x0 : Addr)  : entryFrame m #[(.ref x0)] 1 = mkF m 0 #[.val (.ref x0)] [] := by first | (simp [entryFrame, mkF, argsToLocals, Value.category]; done) | rfl
theorem d_prog_59_method_3_code_14 : decode prog_59_method_3_code 14 = .ok (.iconst 0, 1) := by decide +kernel
def Q_isi_f (Z : State) (q0 : Addr) (r0 : Addr) (a_IDENTIFIER : Addr) (a_SYMBOL : Addr) (a_DIRECTIVE : Addr) (a_END : Addr) (a_FILE_START : Addr) (a_FILE_END : Addr) (a_NUMBER : Addr) (a_LITERAL : Addr) (a_PRAGMA_PREFIX : Addr) (z_COMPACT_STRINGS : Int32) (r_SIOOBE_FORMATTER : Value) (h0 : Heap) (n0 : Nat) (v : Option Value) (h : Heap) (L : List Loc) : Prop := v = some (.int (0 : Int32)) ∧ Fr n0 L ∧ h = h0
set_option maxRecDepth 65536 in
set_option maxHeartbeats 40000000 in
theorem rm_isi_f (l : Launch) (Z : State) (a0 : Array Value) (hw : ∀ d ∈ tables_1, d.before a0 Z = true) (ws : List Jvm.Cond) (q0 : Addr) (r0 : Addr) (a_IDENTIFIER : Addr) (a_SYMBOL : Addr) (a_DIRECTIVE : Addr) (a_END : Addr) (a_FILE_START : Addr) (a_FILE_END : Addr) (a_NUMBER : Addr) (a_LITERAL : Addr) (a_PRAGMA_PREFIX : Addr) (z_COMPACT_STRINGS : Int32) (r_SIOOBE_FORMATTER : Value) (h0 : Heap) (n0 : Nat) (O0 : Old Z n0 h0) (hE : EV Z a_IDENTIFIER a_SYMBOL a_DIRECTIVE a_END a_FILE_START a_FILE_END a_NUMBER a_LITERAL a_PRAGMA_PREFIX z_COMPACT_STRINGS r_SIOOBE_FORMATTER) (P0 : Fld Z h0 q0 "com/example/gate3/gate3/io/Token" "kind" "Lcom/example/gate3/gate3/io/Token$Kind;" (.ref r0)) (hn : ¬ (r0 = a_IDENTIFIER)) :
    MetFree l own_m7 (head1 (Jvm.Cond.code own_m7 prog_59_method_3_code 1 (some .boolean) :: ws) ({ frames := 0, cells := 0, slots := 0, locals := 0 } : Room)) (fun a U => a = #[(.ref q0)] ∧ Z.Warmed39 U.vm ∧ U.heap = h0) (fun _ _ _ _ _ => True) (fun _ U o U' => ∃ v L, o = .returned v ∧ Q_isi_f Z q0 r0 a_IDENTIFIER a_SYMBOL a_DIRECTIVE a_END a_FILE_START a_FILE_END a_NUMBER a_LITERAL a_PRAGMA_PREFIX z_COMPACT_STRINGS r_SIOOBE_FORMATTER h0 n0 v U'.heap L ∧ FrameEnd U o U' L ({ frames := 0, cells := 0, slots := 0, locals := 0 } : Room).cells ({ frames := 0, cells := 0, slots := 0, locals := 0 } : Room).slots) := by
  refine MetFree.of_bodySF (plainFor_of_name pn_com_example_gate3_gate3_io_Token) hisR ?_
  intro p e s m args below meth c s₁ Bd hml0 hP hK
  obtain ⟨rfl, hZ, hh⟩ := hP
  have hx := Bd.exec
  have hby := Bd.bytes
  have hml : c.maxLocals = 1 := hml0
  have hown : s.vm.findClass "com/example/gate3/gate3/io/Token" = some m.cls := findClass_of_methodNamed Bd.named
  have hnm := (name_of_methodNamed Bd.named Bd.method).1
  have X0 : Stand p l e ({ frames := 0, cells := 0, slots := 0, locals := 0 } : Room) s m #[(.ref q0)] below meth c s₁ [] 0 0 := Stand.of_body Bd
  have e0 : s₁.heap = h0 := by rw [← hh, Bd.state]; rfl
  have N0 := Fr.nil n0
  refine Classical.byContradiction fun hNG => ?_
  have K0 := Keep.refl h0 []
  have k0 : ∀ t, own_At p e below m s₁ 0 #[.val (.ref q0)] [] t → own_En p e below m s₁ #[(.ref q0)] 1 t := fun t k => castTop (ef_isi_f m q0 ) k
  obtain ⟨S_IDENTIFIER, E_IDENTIFIER, S_SYMBOL, E_SYMBOL, F_SYMBOL_ordinal, F_IDENTIFIER_ordinal, S_DIRECTIVE, E_DIRECTIVE, F_DIRECTIVE_ordinal, S_END, E_END, F_END_ordinal, S_FILE_START, E_FILE_START, F_FILE_START_ordinal, S_FILE_END, E_FILE_END, F_FILE_END_ordinal, S_NUMBER, E_NUMBER, F_NUMBER_ordinal, S_LITERAL, E_LITERAL, F_LITERAL_ordinal, S_PRAGMA_PREFIX, E_PRAGMA_PREFIX, F_PRAGMA_PREFIX_ordinal, S_COMPACT_STRINGS, nz_COMPACT_STRINGS, S_SIOOBE_FORMATTER, iS_SIOOBE_FORMATTER⟩ := (id hE : EV Z a_IDENTIFIER a_SYMBOL a_DIRECTIVE a_END a_FILE_START a_FILE_END a_NUMBER a_LITERAL a_PRAGMA_PREFIX z_COMPACT_STRINGS r_SIOOBE_FORMATTER)
  obtain ⟨T1, X1, e1, st1⟩ := getF X0 hx hZ hown (host := "") (Or.inl (own_w hw 64 rfl)) Via.refl e0 P0 (g := (mkF m 1 #[.val (.ref q0)] [(.ref q0)])) rfl rfl (hb hby d_prog_59_method_3_code_1)
  obtain ⟨T2, X2, e2, st2⟩ := getS2 X1 hx hZ hown (host := "") (Or.inl (own_w hw 77 rfl)) Via.refl e1 (S_IDENTIFIER.ext O0.2) (g := (mkF m 4 #[.val (.ref q0)] [(.ref r0)])) rfl (hb hby d_prog_59_method_3_code_4)
  have k3 : ∀ t, own_At p e below m T2 15 #[.val (.ref q0)] [(.int (0 : Int32))] t → own_En p e below m s₁ #[(.ref q0)] 1 t := by
    intro t k
    refine k0 t ?_
    refine XS.aloadN X0.here hx rfl (hb hby d_prog_59_method_3_code_0) rfl rfl ?_
    show own_At p e below m s₁ 1 #[.val (.ref q0)] [(.ref q0)] t
    refine st1 _ ?_
    show own_At p e below m T1 4 #[.val (.ref q0)] [(.ref r0)] t
    refine st2 _ ?_
    show own_At p e below m T2 7 #[.val (.ref q0)] [(.ref a_IDENTIFIER), (.ref r0)] t
    refine Jvm.RoadKit.acmp (g := (mkF m 7 #[.val (.ref q0)] [(.ref a_IDENTIFIER), (.ref r0)])) X2 hx rfl rfl rfl (pc0 := 7) (pc' := 14) (same := false) rfl (hb hby d_prog_59_method_3_code_7) rfl (decide_eq_false fun q => hn (Value.ref.inj q)) (by decide) (by decide) ?_
    show own_At p e below m T2 14 #[.val (.ref q0)] [] t
    refine XS.iconst X2.here hx rfl (hb hby d_prog_59_method_3_code_14) ?_
    show own_At p e below m T2 15 #[.val (.ref q0)] [(.int (0 : Int32))] t
    exact k
  obtain ⟨fs, hr, hrun, hended, hW, hsame⟩ := X2.leave (v := some (.int (0 : Int32))) (fun h => by rw [Bd.returns] at h; cases h)
  refine hNG ⟨_, _, k3 _ ?_, hrun, hended, _, _, rfl, ?_, ⟨_, rfl⟩, hW, hsame.mono (by decide) (by decide)⟩
  · exact retN X2 hx (t := .boolean) Bd.returns (by simp) (hb hby d_prog_59_method_3_code_15) hr
  · show Q_isi_f Z q0 r0 a_IDENTIFIER a_SYMBOL a_DIRECTIVE a_END a_FILE_START a_FILE_END a_NUMBER a_LITERAL a_PRAGMA_PREFIX z_COMPACT_STRINGS r_SIOOBE_FORMATTER h0 n0 _ T2.heap _
    rw [e2]
    exact ⟨rfl, N0, rfl⟩
theorem ef_eqs (m : MethodId) (x0 : Addr) (x1 : Addr)  : entryFrame m #[(.ref x0), (.ref x1)] 3 = mkF m 0 #[.val (.ref x0), .val (.ref x1), .unset] [] := by first | (simp [entryFrame, mkF, argsToLocals, Value.category]; done) | rfl
theorem d_jdk_42_method_66_code_0 : decode jdk_42_method_66_code 0 = .ok (.aload_n 0, 1) := by decide +kernel
theorem d_jdk_42_method_66_code_1 : decode jdk_42_method_66_code 1 = .ok (.aload_n 1, 1) := by decide +kernel
theorem d_jdk_42_method_66_code_2 : decode jdk_42_method_66_code 2 = .ok (.if_acmp .ne 5, 3) := by decide +kernel
theorem d_jdk_42_method_66_code_5 : decode jdk_42_method_66_code 5 = .ok (.iconst 1, 1) := by decide +kernel
theorem d_jdk_42_method_66_code_6 : decode jdk_42_method_66_code 6 = .ok (.ireturn, 1) := by decide +kernel
abbrev own_m8 : MethodName := ⟨"java/lang/String", "equals", "(Ljava/lang/Object;)Z"⟩
def Q_eqs (Z : State) (q0 : Addr) (a_IDENTIFIER : Addr) (a_SYMBOL : Addr) (a_DIRECTIVE : Addr) (a_END : Addr) (a_FILE_START : Addr) (a_FILE_END : Addr) (a_NUMBER : Addr) (a_LITERAL : Addr) (a_PRAGMA_PREFIX : Addr) (z_COMPACT_STRINGS : Int32) (r_SIOOBE_FORMATTER : Value) (h0 : Heap) (n0 : Nat) (v : Option Value) (h : Heap) (L : List Loc) : Prop := v = some (.int (1 : Int32)) ∧ Fr n0 L ∧ h = h0
set_option maxRecDepth 65536 in
set_option maxHeartbeats 40000000 in
theorem rm_eqs (l : Launch) (Z : State) (a0 : Array Value) (hw : ∀ d ∈ tables_1, d.before a0 Z = true) (ws : List Jvm.Cond) (q0 : Addr) (a_IDENTIFIER : Addr) (a_SYMBOL : Addr) (a_DIRECTIVE : Addr) (a_END : Addr) (a_FILE_START : Addr) (a_FILE_END : Addr) (a_NUMBER : Addr) (a_LITERAL : Addr) (a_PRAGMA_PREFIX : Addr) (z_COMPACT_STRINGS : Int32) (r_SIOOBE_FORMATTER : Value) (h0 : Heap) (n0 : Nat) (O0 : Old Z n0 h0) (hE : EV Z a_IDENTIFIER a_SYMBOL a_DIRECTIVE a_END a_FILE_START a_FILE_END a_NUMBER a_LITERAL a_PRAGMA_PREFIX z_COMPACT_STRINGS r_SIOOBE_FORMATTER) :
    MetFree l own_m8 (head1 (Jvm.Cond.code own_m8 jdk_42_method_66_code 3 (some .boolean) :: ws) ({ frames := 0, cells := 0, slots := 0, locals := 0 } : Room)) (fun a U => a = #[(.ref q0), (.ref q0)] ∧ Z.Warmed39 U.vm ∧ U.heap = h0) (fun _ _ _ _ _ => True) (fun _ U o U' => ∃ v L, o = .returned v ∧ Q_eqs Z q0 a_IDENTIFIER a_SYMBOL a_DIRECTIVE a_END a_FILE_START a_FILE_END a_NUMBER a_LITERAL a_PRAGMA_PREFIX z_COMPACT_STRINGS r_SIOOBE_FORMATTER h0 n0 v U'.heap L ∧ FrameEnd U o U' L ({ frames := 0, cells := 0, slots := 0, locals := 0 } : Room).cells ({ frames := 0, cells := 0, slots := 0, locals := 0 } : Room).slots) := by
  refine MetFree.of_bodySF (plainFor_of_name pn_java_lang_String) hisR ?_
  intro p e s m args below meth c s₁ Bd hml0 hP hK
  obtain ⟨rfl, hZ, hh⟩ := hP
  have hx := Bd.exec
  have hby := Bd.bytes
  have hml : c.maxLocals = 3 := hml0
  have hown : s.vm.findClass "java/lang/String" = some m.cls := findClass_of_methodNamed Bd.named
  have hnm := (name_of_methodNamed Bd.named Bd.method).1
  have X0 : Stand p l e ({ frames := 0, cells := 0, slots := 0, locals := 0 } : Room) s m #[(.ref q0), (.ref q0)] below meth c s₁ [] 0 0 := Stand.of_body Bd
  have e0 : s₁.heap = h0 := by rw [← hh, Bd.state]; rfl
  have N0 := Fr.nil n0
  refine Classical.byContradiction fun hNG => ?_
  have K0 := Keep.refl h0 []
  have k0 : ∀ t, own_At p e below m s₁ 0 #[.val (.ref q0), .val (.ref q0), .unset] [] t → own_En p e below m s₁ #[(.ref q0), (.ref q0)] 3 t := fun t k => castTop (ef_eqs m q0 q0 ) k
  obtain ⟨S_IDENTIFIER, E_IDENTIFIER, S_SYMBOL, E_SYMBOL, F_SYMBOL_ordinal, F_IDENTIFIER_ordinal, S_DIRECTIVE, E_DIRECTIVE, F_DIRECTIVE_ordinal, S_END, E_END, F_END_ordinal, S_FILE_START, E_FILE_START, F_FILE_START_ordinal, S_FILE_END, E_FILE_END, F_FILE_END_ordinal, S_NUMBER, E_NUMBER, F_NUMBER_ordinal, S_LITERAL, E_LITERAL, F_LITERAL_ordinal, S_PRAGMA_PREFIX, E_PRAGMA_PREFIX, F_PRAGMA_PREFIX_ordinal, S_COMPACT_STRINGS, nz_COMPACT_STRINGS, S_SIOOBE_FORMATTER, iS_SIOOBE_FORMATTER⟩ := (id hE : EV Z a_IDENTIFIER a_SYMBOL a_DIRECTIVE a_END a_FILE_START a_FILE_END a_NUMBER a_LITERAL a_PRAGMA_PREFIX z_COMPACT_STRINGS r_SIOOBE_FORMATTER)
  have k1 : ∀ t, own_At p e below m s₁ 6 #[.val (.ref q0), .val (.ref q0), .unset] [(.int (1 : Int32))] t → own_En p e below m s₁ #[(.ref q0), (.ref q0)] 3 t := by
    intro t k
    refine k0 t ?_
    refine XS.aloadN X0.here hx rfl (hb hby d_jdk_42_method_66_code_0) rfl rfl ?_
    show own_At p e below m s₁ 1 #[.val (.ref q0), .val (.ref q0), .unset] [(.ref q0)] t
    refine XS.aloadN X0.here hx rfl (hb hby d_jdk_42_method_66_code_1) rfl rfl ?_
    show own_At p e below m s₁ 2 #[.val (.ref q0), .val (.ref q0), .unset] [(.ref q0), (.ref q0)] t
    refine Jvm.RoadKit.acmp (g := (mkF m 2 #[.val (.ref q0), .val (.ref q0), .unset] [(.ref q0), (.ref q0)])) X0 hx rfl rfl rfl (pc0 := 2) (pc' := 5) (same := true) rfl (hb hby d_jdk_42_method_66_code_2) rfl (decide_eq_true rfl) (by decide) (by decide) ?_
    show own_At p e below m s₁ 5 #[.val (.ref q0), .val (.ref q0), .unset] [] t
    refine XS.iconst X0.here hx rfl (hb hby d_jdk_42_method_66_code_5) ?_
    show own_At p e below m s₁ 6 #[.val (.ref q0), .val (.ref q0), .unset] [(.int (1 : Int32))] t
    exact k
  obtain ⟨fs, hr, hrun, hended, hW, hsame⟩ := X0.leave (v := some (.int (1 : Int32))) (fun h => by rw [Bd.returns] at h; cases h)
  refine hNG ⟨_, _, k1 _ ?_, hrun, hended, _, _, rfl, ?_, ⟨_, rfl⟩, hW, hsame.mono (by decide) (by decide)⟩
  · exact retN X0 hx (t := .boolean) Bd.returns (by simp) (hb hby d_jdk_42_method_66_code_6) hr
  · show Q_eqs Z q0 a_IDENTIFIER a_SYMBOL a_DIRECTIVE a_END a_FILE_START a_FILE_END a_NUMBER a_LITERAL a_PRAGMA_PREFIX z_COMPACT_STRINGS r_SIOOBE_FORMATTER h0 n0 _ s₁.heap _
    rw [e0]
    exact ⟨rfl, N0, rfl⟩
theorem ef_iss (m : MethodId) (x0 : Addr) (x1 : Addr)  : entryFrame m #[(.ref x0), (.ref x1)] 2 = mkF m 0 #[.val (.ref x0), .val (.ref x1)] [] := by first | (simp [entryFrame, mkF, argsToLocals, Value.category]; done) | rfl
theorem d_prog_59_method_2_code_0 : decode prog_59_method_2_code 0 = .ok (.aload_n 0, 1) := by decide +kernel
theorem d_prog_59_method_2_code_1 : decode prog_59_method_2_code 1 = .ok (.getfield 7, 3) := by decide +kernel
theorem d_prog_59_method_2_code_4 : decode prog_59_method_2_code 4 = .ok (.getstatic 24, 3) := by decide +kernel
theorem d_prog_59_method_2_code_7 : decode prog_59_method_2_code 7 = .ok (.if_acmp .eq 13, 3) := by decide +kernel
theorem d_prog_59_method_2_code_20 : decode prog_59_method_2_code 20 = .ok (.aload_n 0, 1) := by decide +kernel
theorem d_prog_59_method_2_code_21 : decode prog_59_method_2_code 21 = .ok (.getfield 13, 3) := by decide +kernel
theorem d_prog_59_method_2_code_24 : decode prog_59_method_2_code 24 = .ok (.aload_n 1, 1) := by decide +kernel
theorem d_prog_59_method_2_code_25 : decode prog_59_method_2_code 25 = .ok (.invokevirtual 32, 3) := by decide +kernel
theorem pd__Ljava_lang_Object__Z : parseMethodDescriptor "(Ljava/lang/Object;)Z" = some ⟨[(.object "java/lang/Object")], some .boolean⟩ := by decide +kernel
theorem d_prog_59_method_2_code_28 : decode prog_59_method_2_code 28 = .ok (.ifCond .eq 7, 3) := by decide +kernel
theorem d_prog_59_method_2_code_31 : decode prog_59_method_2_code 31 = .ok (.iconst 1, 1) := by decide +kernel
theorem d_prog_59_method_2_code_32 : decode prog_59_method_2_code 32 = .ok (.goto 4, 3) := by decide +kernel
theorem d_prog_59_method_2_code_36 : decode prog_59_method_2_code 36 = .ok (.ireturn, 1) := by decide +kernel
abbrev own_m9 : MethodName := ⟨"com/example/gate3/gate3/io/Token", "is", "(Ljava/lang/String;)Z"⟩
def Q_iss (Z : State) (q0 : Addr) (r1 : Addr) (a_IDENTIFIER : Addr) (a_SYMBOL : Addr) (a_DIRECTIVE : Addr) (a_END : Addr) (a_FILE_START : Addr) (a_FILE_END : Addr) (a_NUMBER : Addr) (a_LITERAL : Addr) (a_PRAGMA_PREFIX : Addr) (z_COMPACT_STRINGS : Int32) (r_SIOOBE_FORMATTER : Value) (h0 : Heap) (n0 : Nat) (v : Option Value) (h : Heap) (L : List Loc) : Prop := v = some (.int (1 : Int32)) ∧ Fr n0 L ∧ h = h0
set_option maxRecDepth 65536 in
set_option maxHeartbeats 40000000 in
theorem rm_iss (l : Launch) (Z : State) (a0 : Array Value) (hw : ∀ d ∈ tables_1, d.before a0 Z = true) (ws : List Jvm.Cond) (q0 : Addr) (r1 : Addr) (a_IDENTIFIER : Addr) (a_SYMBOL : Addr) (a_DIRECTIVE : Addr) (a_END : Addr) (a_FILE_START : Addr) (a_FILE_END : Addr) (a_NUMBER : Addr) (a_LITERAL : Addr) (a_PRAGMA_PREFIX : Addr) (z_COMPACT_STRINGS : Int32) (r_SIOOBE_FORMATTER : Value) (h0 : Heap) (n0 : Nat) (O0 : Old Z n0 h0) (hE : EV Z a_IDENTIFIER a_SYMBOL a_DIRECTIVE a_END a_FILE_START a_FILE_END a_NUMBER a_LITERAL a_PRAGMA_PREFIX z_COMPACT_STRINGS r_SIOOBE_FORMATTER) (P0 : Fld Z h0 q0 "com/example/gate3/gate3/io/Token" "kind" "Lcom/example/gate3/gate3/io/Token$Kind;" (.ref a_IDENTIFIER)) (P1 : Fld Z h0 q0 "com/example/gate3/gate3/io/Token" "text" "Ljava/lang/String;" (.ref r1)) (P2 : Exa Z h0 r1 "java/lang/String") :
    MetFree l own_m9 (head1 (Jvm.Cond.code own_m9 prog_59_method_2_code 2 (some .boolean) :: ws) ({ frames := 1, cells := 0, slots := 0, locals := 14 } : Room)) (fun a U => a = #[(.ref q0), (.ref r1)] ∧ Z.Warmed39 U.vm ∧ U.heap = h0) (fun _ _ _ _ _ => True) (fun _ U o U' => ∃ v L, o = .returned v ∧ Q_iss Z q0 r1 a_IDENTIFIER a_SYMBOL a_DIRECTIVE a_END a_FILE_START a_FILE_END a_NUMBER a_LITERAL a_PRAGMA_PREFIX z_COMPACT_STRINGS r_SIOOBE_FORMATTER h0 n0 v U'.heap L ∧ FrameEnd U o U' L ({ frames := 1, cells := 0, slots := 0, locals := 14 } : Room).cells ({ frames := 1, cells := 0, slots := 0, locals := 14 } : Room).slots) := by
  refine MetFree.of_bodySF (plainFor_of_name pn_com_example_gate3_gate3_io_Token) hisR ?_
  intro p e s m args below meth c s₁ Bd hml0 hP hK
  obtain ⟨rfl, hZ, hh⟩ := hP
  have hx := Bd.exec
  have hby := Bd.bytes
  have hml : c.maxLocals = 2 := hml0
  have hown : s.vm.findClass "com/example/gate3/gate3/io/Token" = some m.cls := findClass_of_methodNamed Bd.named
  have hnm := (name_of_methodNamed Bd.named Bd.method).1
  have X0 : Stand p l e ({ frames := 1, cells := 0, slots := 0, locals := 14 } : Room) s m #[(.ref q0), (.ref r1)] below meth c s₁ [] 0 0 := Stand.of_body Bd
  have e0 : s₁.heap = h0 := by rw [← hh, Bd.state]; rfl
  have N0 := Fr.nil n0
  refine Classical.byContradiction fun hNG => ?_
  have K0 := Keep.refl h0 []
  have k0 : ∀ t, own_At p e below m s₁ 0 #[.val (.ref q0), .val (.ref r1)] [] t → own_En p e below m s₁ #[(.ref q0), (.ref r1)] 2 t := fun t k => castTop (ef_iss m q0 r1 ) k
  obtain ⟨S_IDENTIFIER, E_IDENTIFIER, S_SYMBOL, E_SYMBOL, F_SYMBOL_ordinal, F_IDENTIFIER_ordinal, S_DIRECTIVE, E_DIRECTIVE, F_DIRECTIVE_ordinal, S_END, E_END, F_END_ordinal, S_FILE_START, E_FILE_START, F_FILE_START_ordinal, S_FILE_END, E_FILE_END, F_FILE_END_ordinal, S_NUMBER, E_NUMBER, F_NUMBER_ordinal, S_LITERAL, E_LITERAL, F_LITERAL_ordinal, S_PRAGMA_PREFIX, E_PRAGMA_PREFIX, F_PRAGMA_PREFIX_ordinal, S_COMPACT_STRINGS, nz_COMPACT_STRINGS, S_SIOOBE_FORMATTER, iS_SIOOBE_FORMATTER⟩ := (id hE : EV Z a_IDENTIFIER a_SYMBOL a_DIRECTIVE a_END a_FILE_START a_FILE_END a_NUMBER a_LITERAL a_PRAGMA_PREFIX z_COMPACT_STRINGS r_SIOOBE_FORMATTER)
  obtain ⟨T1, X1, e1, st1⟩ := getF X0 hx hZ hown (host := "") (Or.inl (own_w hw 64 rfl)) Via.refl e0 P0 (g := (mkF m 1 #[.val (.ref q0), .val (.ref r1)] [(.ref q0)])) rfl rfl (hb hby d_prog_59_method_2_code_1)
  obtain ⟨T2, X2, e2, st2⟩ := getS2 X1 hx hZ hown (host := "") (Or.inl (own_w hw 77 rfl)) Via.refl e1 (S_IDENTIFIER.ext O0.2) (g := (mkF m 4 #[.val (.ref q0), .val (.ref r1)] [(.ref a_IDENTIFIER)])) rfl (hb hby d_prog_59_method_2_code_4)
  obtain ⟨T3, X3, e3, st3⟩ := getF X2 hx hZ hown (host := "") (Or.inl (own_w hw 66 rfl)) Via.refl e2 P1 (g := (mkF m 21 #[.val (.ref q0), .val (.ref r1)] [(.ref q0)])) rfl rfl (hb hby d_prog_59_method_2_code_21)
  obtain ⟨cq4, kq4, q4a, q4b, q4c⟩ := isOf hZ e3 P2
  obtain ⟨_, _, ⟨T4, L4, k4, n4⟩, -, X4, ⟨Lc4, hQ4, l4, y4, z4⟩, st4⟩ := X3.virtualBack hx (y := own_m8) (z := own_m8) hown (mvT hZ (own_w hw 83 rfl)) (mvT hZ (own_w hw 84 rfl)) (notFace_of_selects (args := #[]) (mvT hZ (own_w hw 86 rfl))) (mvT hZ (own_w hw 86 rfl)) (mvT hZ (own_w hw 85 rfl)) (by decide) (backOf (W := 0) (rm_eqs l Z a0 hw [] r1 _ _ _ _ _ _ _ _ _ _ _ h0 n0 O0 hE) hZ (own_w hw 87 rfl) (own_w hw 11 rfl) (by decide) (by decide)) q4a q4c (g := (mkF m 25 #[.val (.ref q0), .val (.ref r1)] [(.ref r1), (.ref r1)])) rfl (by rw [hml]; rfl) (Steps.refl _) (argsL := [(.ref r1)]) (rest := []) (lenOf pd__Ljava_lang_Object__Z rfl) rfl (by show 2 * 0 + _ ≤ _; exact Nat.le_of_eq rfl) (hb hby d_prog_59_method_2_code_25) (fun _ _ => ⟨rfl, e3, (by decide : 0 + 0 ≤ _), (by decide : 0 + 0 ≤ _)⟩)
  dsimp only [Pt.U, Pt.locs, Pt.cells, Pt.slots] at X4 l4 y4 z4 st4 hQ4
  subst l4 y4 z4
  obtain ⟨rfl, N4q, hp4⟩ := hQ4
  have N4 := Fr.app N0 N4q
  have k5 : ∀ t, own_At p e below m T4 36 #[.val (.ref q0), .val (.ref r1)] [(.int (1 : Int32))] t → own_En p e below m s₁ #[(.ref q0), (.ref r1)] 2 t := by
    intro t k
    refine k0 t ?_
    refine XS.aloadN X0.here hx rfl (hb hby d_prog_59_method_2_code_0) rfl rfl ?_
    show own_At p e below m s₁ 1 #[.val (.ref q0), .val (.ref r1)] [(.ref q0)] t
    refine st1 _ ?_
    show own_At p e below m T1 4 #[.val (.ref q0), .val (.ref r1)] [(.ref a_IDENTIFIER)] t
    refine st2 _ ?_
    show own_At p e below m T2 7 #[.val (.ref q0), .val (.ref r1)] [(.ref a_IDENTIFIER), (.ref a_IDENTIFIER)] t
    refine Jvm.RoadKit.acmp (g := (mkF m 7 #[.val (.ref q0), .val (.ref r1)] [(.ref a_IDENTIFIER), (.ref a_IDENTIFIER)])) X2 hx rfl rfl rfl (pc0 := 7) (pc' := 20) (same := true) rfl (hb hby d_prog_59_method_2_code_7) rfl (decide_eq_true rfl) (by decide) (by decide) ?_
    show own_At p e below m T2 20 #[.val (.ref q0), .val (.ref r1)] [] t
    refine XS.aloadN X2.here hx rfl (hb hby d_prog_59_method_2_code_20) rfl rfl ?_
    show own_At p e below m T2 21 #[.val (.ref q0), .val (.ref r1)] [(.ref q0)] t
    refine st3 _ ?_
    show own_At p e below m T3 24 #[.val (.ref q0), .val (.ref r1)] [(.ref r1)] t
    refine XS.aloadN X3.here hx rfl (hb hby d_prog_59_method_2_code_24) rfl rfl ?_
    show own_At p e below m T3 25 #[.val (.ref q0), .val (.ref r1)] [(.ref r1), (.ref r1)] t
    refine st4.trans ?_
    show own_At p e below m T4 28 #[.val (.ref q0), .val (.ref r1)] [(.int (1 : Int32))] t
    refine XS.ifNo X4.here hx rfl (hb hby d_prog_59_method_2_code_28) rfl ((if0 _ _).trans (feq (by decide : ¬ ((1 : Int32) = (0 : Int32)))).1) ?_
    show own_At p e below m T4 31 #[.val (.ref q0), .val (.ref r1)] [] t
    refine XS.iconst X4.here hx rfl (hb hby d_prog_59_method_2_code_31) ?_
    show own_At p e below m T4 32 #[.val (.ref q0), .val (.ref r1)] [(.int (1 : Int32))] t
    refine XS.goto X4.here hx rfl (pc0 := 32) (pc' := 36) rfl (hb hby d_prog_59_method_2_code_32) (by decide) (by decide) ?_
    show own_At p e below m T4 36 #[.val (.ref q0), .val (.ref r1)] [(.int (1 : Int32))] t
    exact k
  obtain ⟨fs, hr, hrun, hended, hW, hsame⟩ := X4.leave (v := some (.int (1 : Int32))) (fun h => by rw [Bd.returns] at h; cases h)
  refine hNG ⟨_, _, k5 _ ?_, hrun, hended, _, _, rfl, ?_, ⟨_, rfl⟩, hW, hsame.mono (by decide) (by decide)⟩
  · exact retN X4 hx (t := .boolean) Bd.returns (by simp) (hb hby d_prog_59_method_2_code_36) hr
  · show Q_iss Z q0 r1 a_IDENTIFIER a_SYMBOL a_DIRECTIVE a_END a_FILE_START a_FILE_END a_NUMBER a_LITERAL a_PRAGMA_PREFIX z_COMPACT_STRINGS r_SIOOBE_FORMATTER h0 n0 _ T4.heap _
    rw [hp4]
    exact ⟨rfl, N4, rfl⟩
theorem ef_law (m : MethodId) (x0 : Int32) (x1 : Int32) (x2 : Int32) (x3 : Int32) (x4 : Int32)  : entryFrame m #[(.int x0), (.int x1), (.int x2), (.int x3), (.int x4)] maxLocals = mkF m 0 #[.val (.int x0), .val (.int x1), .val (.int x2), .val (.int x3), .val (.int x4), .unset, .unset, .unset, .unset, .unset, .unset, .unset, .unset] [] := by first | (simp [entryFrame, mkF, argsToLocals, Value.category, maxLocals]; done) | rfl
theorem ef_f2 (m : MethodId) (x0 : Int32)  : entryFrame m #[(.int x0)] 1 = mkF m 0 #[.val (.int x0)] [] := by first | (simp [entryFrame, mkF, argsToLocals, Value.category]; done) | rfl
theorem d_method_2_code_4 : decode method_2_code 4 = .ok (.getstatic 7, 3) := by decide +kernel
theorem d_method_2_code_7 : decode method_2_code 7 = .ok (.areturn, 1) := by decide +kernel
def Q_f2 (Z : State) (a_IDENTIFIER : Addr) (a_SYMBOL : Addr) (a_DIRECTIVE : Addr) (a_END : Addr) (a_FILE_START : Addr) (a_FILE_END : Addr) (a_NUMBER : Addr) (a_LITERAL : Addr) (a_PRAGMA_PREFIX : Addr) (z_COMPACT_STRINGS : Int32) (r_SIOOBE_FORMATTER : Value) (h0 : Heap) (n0 : Nat) (v : Option Value) (h : Heap) (L : List Loc) : Prop := v = some (.ref a_IDENTIFIER) ∧ Fr n0 L ∧ h = h0
set_option maxRecDepth 65536 in
set_option maxHeartbeats 40000000 in
theorem rm_f2 (l : Launch) (Z : State) (a0 : Array Value) (hw : ∀ d ∈ tables_1, d.before a0 Z = true) (ws : List Jvm.Cond) (a_IDENTIFIER : Addr) (a_SYMBOL : Addr) (a_DIRECTIVE : Addr) (a_END : Addr) (a_FILE_START : Addr) (a_FILE_END : Addr) (a_NUMBER : Addr) (a_LITERAL : Addr) (a_PRAGMA_PREFIX : Addr) (z_COMPACT_STRINGS : Int32) (r_SIOOBE_FORMATTER : Value) (h0 : Heap) (n0 : Nat) (O0 : Old Z n0 h0) (hE : EV Z a_IDENTIFIER a_SYMBOL a_DIRECTIVE a_END a_FILE_START a_FILE_END a_NUMBER a_LITERAL a_PRAGMA_PREFIX z_COMPACT_STRINGS r_SIOOBE_FORMATTER) :
    MetFree l own_m0 (head1 (Jvm.Cond.code own_m0 method_2_code 1 (some (.object "com/example/gate3/gate3/io/Token$Kind")) :: ws) ({ frames := 0, cells := 0, slots := 0, locals := 0 } : Room)) (fun a U => a = #[(.int (0 : Int32))] ∧ Z.Warmed39 U.vm ∧ U.heap = h0) (fun _ _ _ _ _ => True) (fun _ U o U' => ∃ v L, o = .returned v ∧ Q_f2 Z a_IDENTIFIER a_SYMBOL a_DIRECTIVE a_END a_FILE_START a_FILE_END a_NUMBER a_LITERAL a_PRAGMA_PREFIX z_COMPACT_STRINGS r_SIOOBE_FORMATTER h0 n0 v U'.heap L ∧ FrameEnd U o U' L ({ frames := 0, cells := 0, slots := 0, locals := 0 } : Room).cells ({ frames := 0, cells := 0, slots := 0, locals := 0 } : Room).slots) := by
  refine MetFree.of_bodySF (plainFor_of_name pn_com_example_gate3_gate3_io_TokenIsIdentifierPinLaw) hisR ?_
  intro p e s m args below meth c s₁ Bd hml0 hP hK
  obtain ⟨rfl, hZ, hh⟩ := hP
  have hx := Bd.exec
  have hby := Bd.bytes
  have hml : c.maxLocals = 1 := hml0
  have hown : s.vm.findClass "com/example/gate3/gate3/io/TokenIsIdentifierPinLaw" = some m.cls := findClass_of_methodNamed Bd.named
  have hnm := (name_of_methodNamed Bd.named Bd.method).1
  have X0 : Stand p l e ({ frames := 0, cells := 0, slots := 0, locals := 0 } : Room) s m #[(.int (0 : Int32))] below meth c s₁ [] 0 0 := Stand.of_body Bd
  have e0 : s₁.heap = h0 := by rw [← hh, Bd.state]; rfl
  have N0 := Fr.nil n0
  refine Classical.byContradiction fun hNG => ?_
  have K0 := Keep.refl h0 []
  have k0 : ∀ t, own_At p e below m s₁ 0 #[.val (.int (0 : Int32))] [] t → own_En p e below m s₁ #[(.int (0 : Int32))] 1 t := fun t k => castTop (ef_f2 m ((0 : Int32)) ) k
  obtain ⟨S_IDENTIFIER, E_IDENTIFIER, S_SYMBOL, E_SYMBOL, F_SYMBOL_ordinal, F_IDENTIFIER_ordinal, S_DIRECTIVE, E_DIRECTIVE, F_DIRECTIVE_ordinal, S_END, E_END, F_END_ordinal, S_FILE_START, E_FILE_START, F_FILE_START_ordinal, S_FILE_END, E_FILE_END, F_FILE_END_ordinal, S_NUMBER, E_NUMBER, F_NUMBER_ordinal, S_LITERAL, E_LITERAL, F_LITERAL_ordinal, S_PRAGMA_PREFIX, E_PRAGMA_PREFIX, F_PRAGMA_PREFIX_ordinal, S_COMPACT_STRINGS, nz_COMPACT_STRINGS, S_SIOOBE_FORMATTER, iS_SIOOBE_FORMATTER⟩ := (id hE : EV Z a_IDENTIFIER a_SYMBOL a_DIRECTIVE a_END a_FILE_START a_FILE_END a_NUMBER a_LITERAL a_PRAGMA_PREFIX z_COMPACT_STRINGS r_SIOOBE_FORMATTER)
  obtain ⟨T1, X1, e1, st1⟩ := getS2 X0 hx hZ hown (host := "") (Or.inl (own_w hw 5 rfl)) Via.refl e0 (S_IDENTIFIER.ext O0.2) (g := (mkF m 4 #[.val (.int (0 : Int32))] [])) rfl (hb hby d_method_2_code_4)
  have k2 : ∀ t, own_At p e below m T1 7 #[.val (.int (0 : Int32))] [(.ref a_IDENTIFIER)] t → own_En p e below m s₁ #[(.int (0 : Int32))] 1 t := by
    intro t k
    refine k0 t ?_
    refine XS.iloadN X0.here hx rfl (hb hby d_method_2_code_0) rfl ?_
    show own_At p e below m s₁ 1 #[.val (.int (0 : Int32))] [(.int (0 : Int32))] t
    refine XS.ifNo X0.here hx rfl (hb hby d_method_2_code_1) rfl ((if0 _ _).trans (teq (by decide : (0 : Int32) = (0 : Int32))).2) ?_
    show own_At p e below m s₁ 4 #[.val (.int (0 : Int32))] [] t
    refine st1 _ ?_
    show own_At p e below m T1 7 #[.val (.int (0 : Int32))] [(.ref a_IDENTIFIER)] t
    exact k
  obtain ⟨fs, hr, hrun, hended, hW, hsame⟩ := X1.leave (v := some (.ref a_IDENTIFIER)) (fun h => by rw [Bd.returns] at h; cases h)
  refine hNG ⟨_, _, k2 _ ?_, hrun, hended, _, _, rfl, ?_, ⟨_, rfl⟩, hW, hsame.mono (by decide) (by decide)⟩
  · exact retOut X1 hx (t := (.object "com/example/gate3/gate3/io/Token$Kind")) Bd.returns rfl (Or.inr (Or.inr (Or.inr (Or.inr ⟨rfl, rfl, rfl⟩)))) (hb hby d_method_2_code_7) hr
  · show Q_f2 Z a_IDENTIFIER a_SYMBOL a_DIRECTIVE a_END a_FILE_START a_FILE_END a_NUMBER a_LITERAL a_PRAGMA_PREFIX z_COMPACT_STRINGS r_SIOOBE_FORMATTER h0 n0 _ T1.heap _
    rw [e1]
    exact ⟨rfl, N0, rfl⟩
theorem pd__I_Lcom_example_gate3_gate3_io_Token_Kind_ : parseMethodDescriptor "(I)Lcom/example/gate3/gate3/io/Token$Kind;" = some ⟨[.int], some (.object "com/example/gate3/gate3/io/Token$Kind")⟩ := by decide +kernel
theorem pd___C_V : parseMethodDescriptor "([C)V" = some ⟨[(.array .char)], none⟩ := by decide +kernel
abbrev own_m10 : MethodName := ⟨"java/lang/String", "<init>", "([C)V"⟩
theorem pd__C_Ljava_lang_String_ : parseMethodDescriptor "(C)Ljava/lang/String;" = some ⟨[.char], some (.object "java/lang/String")⟩ := by decide +kernel
theorem pd__Lcom_example_gate3_gate3_io_Token_Kind_Ljava_lang_String_Ljava_lang_String_I_V : parseMethodDescriptor "(Lcom/example/gate3/gate3/io/Token$Kind;Ljava/lang/String;Ljava/lang/String;I)V" = some ⟨[(.object "com/example/gate3/gate3/io/Token$Kind"), (.object "java/lang/String"), (.object "java/lang/String"), .int], none⟩ := by decide +kernel
theorem pd___Z : parseMethodDescriptor "()Z" = some ⟨[], some .boolean⟩ := by decide +kernel
theorem pd__Ljava_lang_String__Z : parseMethodDescriptor "(Ljava/lang/String;)Z" = some ⟨[(.object "java/lang/String")], some .boolean⟩ := by decide +kernel
def Q_law (Z : State) (p0 : Int32) (p1 : Int32) (p2 : Int32) (p3 : Int32) (p4 : Int32) (a_IDENTIFIER : Addr) (a_SYMBOL : Addr) (a_DIRECTIVE : Addr) (a_END : Addr) (a_FILE_START : Addr) (a_FILE_END : Addr) (a_NUMBER : Addr) (a_LITERAL : Addr) (a_PRAGMA_PREFIX : Addr) (z_COMPACT_STRINGS : Int32) (r_SIOOBE_FORMATTER : Value) (h0 : Heap) (n0 : Nat) (v : Option Value) (h : Heap) (L : List Loc) : Prop := v = some (.int (1 : Int32)) ∧ Fr n0 L
set_option maxRecDepth 65536 in
set_option maxHeartbeats 40000000 in
theorem rm_law (l : Launch) (Z : State) (a0 : Array Value) (hw : ∀ d ∈ tables_1, d.before a0 Z = true) (ws : List Jvm.Cond) (p0 : Int32) (p1 : Int32) (p2 : Int32) (p3 : Int32) (p4 : Int32) (a_IDENTIFIER : Addr) (a_SYMBOL : Addr) (a_DIRECTIVE : Addr) (a_END : Addr) (a_FILE_START : Addr) (a_FILE_END : Addr) (a_NUMBER : Addr) (a_LITERAL : Addr) (a_PRAGMA_PREFIX : Addr) (z_COMPACT_STRINGS : Int32) (r_SIOOBE_FORMATTER : Value) (h0 : Heap) (n0 : Nat) (O0 : Old Z n0 h0) (hE : EV Z a_IDENTIFIER a_SYMBOL a_DIRECTIVE a_END a_FILE_START a_FILE_END a_NUMBER a_LITERAL a_PRAGMA_PREFIX z_COMPACT_STRINGS r_SIOOBE_FORMATTER) :
    MetFree l x (head1 (Jvm.Cond.code x code maxLocals ret :: ws) room_1) (fun a U => a = #[(.int p0), (.int p1), (.int p2), (.int p3), (.int p4)] ∧ Z.Warmed39 U.vm ∧ U.heap = h0) (fun _ _ _ _ _ => True) (fun _ U o U' => ∃ v L, o = .returned v ∧ Q_law Z p0 p1 p2 p3 p4 a_IDENTIFIER a_SYMBOL a_DIRECTIVE a_END a_FILE_START a_FILE_END a_NUMBER a_LITERAL a_PRAGMA_PREFIX z_COMPACT_STRINGS r_SIOOBE_FORMATTER h0 n0 v U'.heap L ∧ FrameEnd U o U' L 6 17) := by
  refine MetFree.of_bodySF (plainFor_of_name pn_com_example_gate3_gate3_io_TokenIsIdentifierPinLaw) hisR ?_
  intro p e s m args below meth c s₁ Bd hml0 hP hK
  obtain ⟨rfl, hZ, hh⟩ := hP
  have hx := Bd.exec
  have hby := Bd.bytes
  have hml : c.maxLocals = 13 := hml0
  have hown : s.vm.findClass "com/example/gate3/gate3/io/TokenIsIdentifierPinLaw" = some m.cls := findClass_of_methodNamed Bd.named
  have hnm := (name_of_methodNamed Bd.named Bd.method).1
  have X0 : Stand p l e room_1 s m #[(.int p0), (.int p1), (.int p2), (.int p3), (.int p4)] below meth c s₁ [] 0 0 := Stand.of_body Bd
  have e0 : s₁.heap = h0 := by rw [← hh, Bd.state]; rfl
  have N0 := Fr.nil n0
  refine Classical.byContradiction fun hNG => ?_
  have K0 := Keep.refl h0 []
  have k0 : ∀ t, own_At p e below m s₁ 0 #[.val (.int p0), .val (.int p1), .val (.int p2), .val (.int p3), .val (.int p4), .unset, .unset, .unset, .unset, .unset, .unset, .unset, .unset] [] t → own_En p e below m s₁ #[(.int p0), (.int p1), (.int p2), (.int p3), (.int p4)] maxLocals t := fun t k => castTop (ef_law m p0 p1 p2 p3 p4 ) k
  obtain ⟨S_IDENTIFIER, E_IDENTIFIER, S_SYMBOL, E_SYMBOL, F_SYMBOL_ordinal, F_IDENTIFIER_ordinal, S_DIRECTIVE, E_DIRECTIVE, F_DIRECTIVE_ordinal, S_END, E_END, F_END_ordinal, S_FILE_START, E_FILE_START, F_FILE_START_ordinal, S_FILE_END, E_FILE_END, F_FILE_END_ordinal, S_NUMBER, E_NUMBER, F_NUMBER_ordinal, S_LITERAL, E_LITERAL, F_LITERAL_ordinal, S_PRAGMA_PREFIX, E_PRAGMA_PREFIX, F_PRAGMA_PREFIX_ordinal, S_COMPACT_STRINGS, nz_COMPACT_STRINGS, S_SIOOBE_FORMATTER, iS_SIOOBE_FORMATTER⟩ := (id hE : EV Z a_IDENTIFIER a_SYMBOL a_DIRECTIVE a_END a_FILE_START a_FILE_END a_NUMBER a_LITERAL a_PRAGMA_PREFIX z_COMPACT_STRINGS r_SIOOBE_FORMATTER)
  have k1 : ∀ t, own_At p e below m s₁ 7 #[.val (.int p0), .val (.int p1), .val (.int p2), .val (.int p3), .val (.int p4), .unset, .unset, .unset, .unset, .unset, .unset, .unset, .unset] [(.int ((p0 &&& (2147483647 : Int32)) % (9 : Int32)))] t → own_En p e below m s₁ #[(.int p0), (.int p1), (.int p2), (.int p3), (.int p4)] maxLocals t := by
    intro t k
    refine k0 t ?_
    refine XS.iloadN X0.here hx rfl (hb hby at_0) rfl ?_
    show own_At p e below m s₁ 1 #[.val (.int p0), .val (.int p1), .val (.int p2), .val (.int p3), .val (.int p4), .unset, .unset, .unset, .unset, .unset, .unset, .unset, .unset] [(.int p0)] t
    refine X0.ldcI hx hown (mvT hZ (own_w hw 0 rfl)) rfl (hb hby at_1) ?_
    show own_At p e below m s₁ 3 #[.val (.int p0), .val (.int p1), .val (.int p2), .val (.int p3), .val (.int p4), .unset, .unset, .unset, .unset, .unset, .unset, .unset, .unset] [(.int (2147483647 : Int32)), (.int p0)] t
    refine XS.iand X0.here hx rfl (hb hby at_3) rfl ?_
    show own_At p e below m s₁ 4 #[.val (.int p0), .val (.int p1), .val (.int p2), .val (.int p3), .val (.int p4), .unset, .unset, .unset, .unset, .unset, .unset, .unset, .unset] [(.int (p0 &&& (2147483647 : Int32)))] t
    refine XS.bipush X0.here hx rfl (hb hby at_4) ?_
    show own_At p e below m s₁ 6 #[.val (.int p0), .val (.int p1), .val (.int p2), .val (.int p3), .val (.int p4), .unset, .unset, .unset, .unset, .unset, .unset, .unset, .unset] [(.int (9 : Int32)), (.int (p0 &&& (2147483647 : Int32)))] t
    refine iremM X0 hx rfl (hb hby at_6) rfl (by decide) ?_
    show own_At p e below m s₁ 7 #[.val (.int p0), .val (.int p1), .val (.int p2), .val (.int p3), .val (.int p4), .unset, .unset, .unset, .unset, .unset, .unset, .unset, .unset] [(.int ((p0 &&& (2147483647 : Int32)) % (9 : Int32)))] t
    exact k
  by_cases hc2 : ((p0 &&& (2147483647 : Int32)) % (9 : Int32)) = (0 : Int32)
  · have k3 : ∀ t, own_At p e below m s₁ 7 #[.val (.int p0), .val (.int p1), .val (.int p2), .val (.int p3), .val (.int p4), .unset, .unset, .unset, .unset, .unset, .unset, .unset, .unset] [(.int (0 : Int32))] t → own_En p e below m s₁ #[(.int p0), (.int p1), (.int p2), (.int p3), (.int p4)] maxLocals t := by
      intro t k
      refine k1 t ?_
      rw [hc2]
      exact k
    obtain ⟨_, _, ⟨T4, L4, k4, n4⟩, -, X4, ⟨Lc4, hQ4, l4, y4, z4⟩, st4⟩ := Jvm.LawKit.callS X0 hx (y := own_m0) hown (mvT hZ (own_w hw 1 rfl)) (mvT hZ (own_w hw 2 rfl)) (mvT hZ (own_w hw 3 rfl)) (mvT hZ (own_w hw 4 rfl)) (by decide) (backOf (W := 0) (rm_f2 l Z a0 hw []  _ _ _ _ _ _ _ _ _ _ _ h0 n0 O0 hE) hZ (own_w hw 4 rfl) (own_w hw 3 rfl) (by decide) (by decide)) (g := (mkF m 11 #[.val (.int p0), .val (.int p1), .val (.int p2), .val (.int p3), .val (.int p4), .val (.int (0 : Int32)), .unset, .unset, .unset, .unset, .unset, .unset, .unset] [(.int (0 : Int32))])) rfl (by rw [hml]; rfl) (argsL := [(.int (0 : Int32))]) (rest := []) (lenOf pd__I_Lcom_example_gate3_gate3_io_Token_Kind_ rfl) rfl (by show 2 * 0 + _ ≤ _; exact Nat.le_of_eq rfl) (hb hby at_11) (fun _ _ => ⟨rfl, e0, (by decide : 0 + 0 ≤ _), (by decide : 0 + 0 ≤ _)⟩)
    dsimp only [Pt.U, Pt.locs, Pt.cells, Pt.slots] at X4 l4 y4 z4 st4 hQ4
    subst l4 y4 z4
    obtain ⟨rfl, N4q, hp4⟩ := hQ4
    have N4 := Fr.app N0 N4q
    obtain ⟨T5, h5, c5, X5, e5, E5, A5, st5⟩ := newP X4 hx hZ (own_w hw 8 rfl) hp4 (g := (mkF m 17 #[.val (.int p0), .val (.int p1), .val (.int p2), .val (.int p3), .val (.int p4), .val (.int (0 : Int32)), .val (.ref a_IDENTIFIER), .unset, .unset, .unset, .unset, .unset, .unset] [(.int (2 : Int32))])) rfl (hb hby at_17) rfl (by decide) (cap := 2) (by decide) (by decide) (by decide) (by decide)
    obtain ⟨b5, g5⟩ : ∃ z, z = h0.size := ⟨_, rfl⟩
    rw [← g5] at A5 st5
    have O5 := O0.ext E5
    have g_b5 : n0 ≤ b5 := Nat.le_trans (Nat.le_of_eq O0.1.symm) (Nat.le_trans O0.2.1 (Nat.le_of_eq g5.symm))
    have s_b5 : h0.size ≤ b5 := Nat.le_trans K0.1 (Nat.le_of_eq g5.symm)
    have K5 := K0.ext E5
    have V5 : Arv Z h5 b5 c5 .char (2 : Int32) [(.int (0 : Int32)), (.int (0 : Int32))] (.int (0 : Int32)) := (Arv.new A5 (by decide)).pad (pad_rep [] (.int (0 : Int32)) 2)
    have lt_b5 := V5.lt
    obtain ⟨cl6, Ar6, q6, Sz6, Nn6, Hs6, Gf6⟩ := id V5
    have hin7 : ¬ ((0 : Int32) < 0 ∨ cl6.slots.size ≤ ((0 : Int32)).toNatClampNeg) := inb_of Sz6 ⟨by decide, by decide⟩
    obtain ⟨T8, h8, X8, e8, W8, st8⟩ := stC X5 hx hZ e5 Ar6 (j := (0 : Int32)) hin7 (g := (mkF m 30 #[.val (.int p0), .val (.int p1), .val (.int p2), .val (.int p3), .val (.int p4), .val (.int (0 : Int32)), .val (.ref a_IDENTIFIER), .val (.ref b5), .unset, .unset, .unset, .unset, .unset] [(.int ((p1 &&& (255 : Int32)).toUInt32.toUInt16.toUInt32.toInt32)), (.int (0 : Int32)), (.ref b5)])) rfl rfl (hb hby at_30)
    have V8 : Arv Z h8 b5 c5 .char (2 : Int32) [(.int ((p1 &&& (255 : Int32)).toUInt32.toUInt16.toUInt32.toInt32)), (.int (0 : Int32))] (.int (0 : Int32)) := by
      have q := Arv.set Ar6 q6 Sz6 Nn6 Hs6 Gf6 (fits_nar_char _) W8 0 rfl (Nat.le_of_ble_eq_true rfl)
      first | exact q | (simp only [own_narc] at q; exact q)
    have N8 := Fr.snoc X8 N4 g_b5
    have O8 := O5.wr W8 g_b5
    have K8 := K5.wr W8 (Or.inr s_b5)
    obtain ⟨cl9, Ar9, q9, Sz9, Nn9, Hs9, Gf9⟩ := id V8
    have hin10 : ¬ ((1 : Int32) < 0 ∨ cl9.slots.size ≤ ((1 : Int32)).toNatClampNeg) := inb_of Sz9 ⟨by decide, by decide⟩
    obtain ⟨T11, h11, X11, e11, W11, st11⟩ := stC X8 hx hZ e8 Ar9 (j := (1 : Int32)) hin10 (g := (mkF m 40 #[.val (.int p0), .val (.int p1), .val (.int p2), .val (.int p3), .val (.int p4), .val (.int (0 : Int32)), .val (.ref a_IDENTIFIER), .val (.ref b5), .unset, .unset, .unset, .unset, .unset] [(.int ((p2 &&& (255 : Int32)).toUInt32.toUInt16.toUInt32.toInt32)), (.int (1 : Int32)), (.ref b5)])) rfl rfl (hb hby at_40)
    have V11 : Arv Z h11 b5 c5 .char (2 : Int32) [(.int ((p1 &&& (255 : Int32)).toUInt32.toUInt16.toUInt32.toInt32)), (.int ((p2 &&& (255 : Int32)).toUInt32.toUInt16.toUInt32.toInt32))] (.int (0 : Int32)) := by
      have q := Arv.set Ar9 q9 Sz9 Nn9 Hs9 Gf9 (fits_nar_char _) W11 1 rfl (Nat.le_of_ble_eq_true rfl)
      first | exact q | (simp only [own_narc] at q; exact q)
    have N11 := Fr.snoc X11 N8 g_b5
    have O11 := O8.wr W11 g_b5
    have K11 := K8.wr W11 (Or.inr s_b5)
    obtain ⟨T12, h12, X12, e12, E12, A12, D12, -, st12⟩ := newO X11 hx hZ hown (own_w hw 9 rfl) (own_w hw 10 rfl) (own_w hw 11 rfl) e11 (g := (mkF m 41 #[.val (.int p0), .val (.int p1), .val (.int p2), .val (.int p3), .val (.int p4), .val (.int (0 : Int32)), .val (.ref a_IDENTIFIER), .val (.ref b5), .unset, .unset, .unset, .unset, .unset] [])) rfl (hb hby at_41) (by decide) (by decide)
    obtain ⟨b12, g12⟩ : ∃ z, z = h11.size := ⟨_, rfl⟩
    rw [← g12] at A12 D12 st12
    have O12 := O11.ext E12
    have g_b12 : n0 ≤ b12 := Nat.le_trans (Nat.le_of_eq O11.1.symm) (Nat.le_trans O11.2.1 (Nat.le_of_eq g12.symm))
    have s_b12 : h0.size ≤ b12 := Nat.le_trans K11.1 (Nat.le_of_eq g12.symm)
    have K12 := K11.ext E12
    have lt_b12 := A12.lt
    have F12_coder : Fld Z h12 b12 "java/lang/String" "coder" "B" (.int (0 : Int32)) := D12 (Or.inr (own_w hw 35 rfl)) (ty := .byte) (by decide)
    have F12_value : Fld Z h12 b12 "java/lang/String" "value" "[B" .null := D12 (Or.inr (own_w hw 37 rfl)) (ty := (.array .byte)) (by decide)
    have f13 := (V11.ext E12)
    have hp14 : ∀ c ∈ ([((p1 &&& (255 : Int32)).toUInt32.toUInt16.toUInt32.toInt32), ((p2 &&& (255 : Int32)).toUInt32.toUInt16.toUInt32.toInt32)] : List Int32), ¬ c < 0 ∧ ¬ (255 : Int32) < c := by
      intro c hc
      simp only [List.mem_cons, List.not_mem_nil, or_false] at hc
      rcases hc with rfl | rfl
      · exact own_and255 _
      · exact own_and255 _
    obtain ⟨_, _, ⟨T15, L15, k15, n15⟩, -, X15, ⟨Lc15, hQ15, l15, y15, z15⟩, st15⟩ := X12.specialBack hx (y := own_m10) rfl hown (mvT hZ (own_w hw 12 rfl)) (mvT hZ (own_w hw 13 rfl)) (mvT hZ (own_w hw 14 rfl)) (by decide) (StrChars.Road.backV (W := 1) hZ (own_hws hw) (kI := 4) (own_w hw 10 rfl) (cs := ([((p1 &&& (255 : Int32)).toUInt32.toUInt16.toUInt32.toInt32), ((p2 &&& (255 : Int32)).toUInt32.toUInt16.toUInt32.toInt32)] : List Int32)) (bs := (([((p1 &&& (255 : Int32)).toUInt32.toUInt16.toUInt32.toInt32), ((p2 &&& (255 : Int32)).toUInt32.toUInt16.toUInt32.toInt32)] : List Int32)).map (fun c => c.toInt8.toInt32)) (n := 2) g_b12 (Nat.le_trans (Nat.le_of_eq O12.1.symm) O12.2.1) A12 F12_value F12_coder f13 (S_COMPACT_STRINGS.ext O12.2) nz_COMPACT_STRINGS rfl rfl (by decide) (by decide) hp14 rfl (by decide) (by decide)) (g := (mkF m 47 #[.val (.int p0), .val (.int p1), .val (.int p2), .val (.int p3), .val (.int p4), .val (.int (0 : Int32)), .val (.ref a_IDENTIFIER), .val (.ref b5), .unset, .unset, .unset, .unset, .unset] [(.ref b5), (.ref b12), (.ref b12)])) rfl (by rw [hml]; rfl) (Steps.refl _) (a := b12) (argsL := [(.ref b5)]) (rest := [(.ref b12)]) (lenOf pd___C_V rfl) rfl (by show 2 * 0 + _ ≤ _; exact Nat.le_of_eq rfl) (hb hby at_47) (fun _ _ => ⟨rfl, e12, (by decide : 2 + 1 ≤ _), (by decide : 6 + 2 ≤ _)⟩)
    dsimp only [Pt.U, Pt.locs, Pt.cells, Pt.slots] at X15 l15 y15 z15 st15 hQ15
    subst l15 y15 z15
    obtain ⟨rfl, N15q, Kc15, Ex15, Fc15, t15, kb15, g_t15, gs_t15, nx15, Fv15, Av15⟩ := hQ15
    have N15 := Fr.app N11 N15q
    have O15 := O12.keep Kc15 (allS g_b12 all0)
    have K15 := K12.trans Kc15 (allS (Or.inr s_b12) all0)
    have s_t15 := Nat.le_trans K12.1 gs_t15
    have lt_t15 := Av15.lt
    obtain ⟨_, _, ⟨T16, L16, k16, n16⟩, -, X16, ⟨Lc16, hQ16, l16, y16, z16⟩, st16⟩ := Jvm.LawKit.callS X15 hx (y := own_m4) hown (mvT hZ (own_w hw 38 rfl)) (mvT hZ (own_w hw 39 rfl)) (mvT hZ (own_w hw 11 rfl)) (mvT hZ (own_w hw 40 rfl)) (by decide) (backOf (W := 0) (rm_vo l Z a0 hw [] ((p3 &&& (255 : Int32)).toUInt32.toUInt16.toUInt32.toInt32) _ _ _ _ _ _ _ _ _ _ _ T15.heap n0 O15 hE  (own_and255 _).2) hZ (own_w hw 40 rfl) (own_w hw 11 rfl) (by decide) (by decide)) (g := (mkF m 58 #[.val (.int p0), .val (.int p1), .val (.int p2), .val (.int p3), .val (.int p4), .val (.int (0 : Int32)), .val (.ref a_IDENTIFIER), .val (.ref b5), .val (.ref b12), .unset, .unset, .unset, .unset] [(.int ((p3 &&& (255 : Int32)).toUInt32.toUInt16.toUInt32.toInt32))])) rfl (by rw [hml]; rfl) (argsL := [(.int ((p3 &&& (255 : Int32)).toUInt32.toUInt16.toUInt32.toInt32))]) (rest := []) (lenOf pd__C_Ljava_lang_String_ rfl) rfl (by show 2 * 0 + _ ≤ _; exact Nat.le_of_eq rfl) (hb hby at_58) (fun _ _ => ⟨rfl, rfl, (by decide : 3 + 2 ≤ _), (by decide : 8 + 5 ≤ _)⟩)
    dsimp only [Pt.U, Pt.locs, Pt.cells, Pt.slots] at X16 l16 y16 z16 st16 hQ16
    subst l16 y16 z16
    obtain ⟨b16, t16, k16, rfl, N16q, O16, Kc16, g_b16, gs_b16, g_t16, gs_t16, ne_b_t16, F16_0, F16_1, F16_2, F16_3⟩ := hQ16
    have N16 := Fr.app N15 N16q
    have K16 := K15.trans Kc16 (fun x hx => nomatch hx)
    have s_b16 := Nat.le_trans K15.1 gs_b16
    have s_t16 := Nat.le_trans K15.1 gs_t16
    have lt_b16 := F16_0.lt
    have lt_t16 := F16_3.lt
    obtain ⟨T17, h17, X17, e17, E17, A17, D17, -, st17⟩ := newO X16 hx hZ hown (own_w hw 52 rfl) (own_w hw 53 rfl) (own_w hw 54 rfl) rfl (g := (mkF m 63 #[.val (.int p0), .val (.int p1), .val (.int p2), .val (.int p3), .val (.int p4), .val (.int (0 : Int32)), .val (.ref a_IDENTIFIER), .val (.ref b5), .val (.ref b12), .val (.ref b16), .unset, .unset, .unset] [])) rfl (hb hby at_63) (by decide) (by decide)
    obtain ⟨b17, g17⟩ : ∃ z, z = T16.heap.size := ⟨_, rfl⟩
    rw [← g17] at A17 D17 st17
    have O17 := O16.ext E17
    have g_b17 : n0 ≤ b17 := Nat.le_trans (Nat.le_of_eq O16.1.symm) (Nat.le_trans O16.2.1 (Nat.le_of_eq g17.symm))
    have s_b17 : h0.size ≤ b17 := Nat.le_trans K16.1 (Nat.le_of_eq g17.symm)
    have K17 := K16.ext E17
    have lt_b17 := A17.lt
    have F17_kind : Fld Z h17 b17 "com/example/gate3/gate3/io/Token" "kind" "Lcom/example/gate3/gate3/io/Token$Kind;" .null := D17 (Or.inr (own_w hw 65 rfl)) (ty := (.object "com/example/gate3/gate3/io/Token$Kind")) (by decide)
    have F17_text : Fld Z h17 b17 "com/example/gate3/gate3/io/Token" "text" "Ljava/lang/String;" .null := D17 (Or.inr (own_w hw 67 rfl)) (ty := (.object "java/lang/String")) (by decide)
    have F17_source : Fld Z h17 b17 "com/example/gate3/gate3/io/Token" "source" "Ljava/lang/String;" .null := D17 (Or.inr (own_w hw 69 rfl)) (ty := (.object "java/lang/String")) (by decide)
    have F17_line : Fld Z h17 b17 "com/example/gate3/gate3/io/Token" "line" "I" (.int (0 : Int32)) := D17 (Or.inr (own_w hw 71 rfl)) (ty := .int) (by decide)
    obtain ⟨_, _, ⟨T18, L18, k18, n18⟩, -, X18, ⟨Lc18, hQ18, l18, y18, z18⟩, st18⟩ := X17.specialBack hx (y := own_m6) rfl hown (mvT hZ (own_w hw 55 rfl)) (mvT hZ (own_w hw 56 rfl)) (mvT hZ (own_w hw 57 rfl)) (by decide) (backOf (W := 1) (rm_ti l Z a0 hw [] b17 a_IDENTIFIER b12 b16 p4 _ _ _ _ _ _ _ _ _ _ _ h17 n0 O17 hE F17_kind F17_text F17_source F17_line A17 g_b17 ) hZ (own_w hw 57 rfl) (own_w hw 54 rfl) (by decide) (by decide)) (g := (mkF m 75 #[.val (.int p0), .val (.int p1), .val (.int p2), .val (.int p3), .val (.int p4), .val (.int (0 : Int32)), .val (.ref a_IDENTIFIER), .val (.ref b5), .val (.ref b12), .val (.ref b16), .unset, .unset, .unset] [(.int p4), (.ref b16), (.ref b12), (.ref a_IDENTIFIER), (.ref b17), (.ref b17)])) rfl (by rw [hml]; rfl) (Steps.refl _) (a := b17) (argsL := [(.ref a_IDENTIFIER), (.ref b12), (.ref b16), (.int p4)]) (rest := [(.ref b17)]) (lenOf pd__Lcom_example_gate3_gate3_io_Token_Kind_Ljava_lang_String_Ljava_lang_String_I_V rfl) rfl (by show 2 * 0 + _ ≤ _; exact Nat.le_of_eq rfl) (hb hby at_75) (fun _ _ => ⟨rfl, e17, (by decide : 6 + 0 ≤ _), (by decide : 17 + 0 ≤ _)⟩)
    dsimp only [Pt.U, Pt.locs, Pt.cells, Pt.slots] at X18 l18 y18 z18 st18 hQ18
    subst l18 y18 z18
    obtain ⟨rfl, N18q, O18, Kc18, Ex18, G18_0, G18_1, G18_2, G18_3⟩ := hQ18
    have N18 := Fr.app N16 N18q
    have K18 := K17.trans Kc18 (allS (Or.inr s_b17) all0)
    obtain ⟨cq19, kq19, q19a, q19b, q19c⟩ := isOf hZ rfl Ex18
    obtain ⟨_, _, ⟨T19, L19, k19, n19⟩, -, X19, ⟨Lc19, hQ19, l19, y19, z19⟩, st19⟩ := X18.virtualBack hx (y := own_m7) (z := own_m7) hown (mvT hZ (own_w hw 72 rfl)) (mvT hZ (own_w hw 73 rfl)) (notFace_of_selects (args := #[]) (mvT hZ (own_w hw 75 rfl))) (mvT hZ (own_w hw 75 rfl)) (mvT hZ (own_w hw 74 rfl)) (by decide) (backOf (W := 0) (rm_isi_t l Z a0 hw [] b17 _ _ _ _ _ _ _ _ _ _ _ T18.heap n0 O18 hE G18_0) hZ (own_w hw 76 rfl) (own_w hw 54 rfl) (by decide) (by decide)) q19a q19c (g := (mkF m 82 #[.val (.int p0), .val (.int p1), .val (.int p2), .val (.int p3), .val (.int p4), .val (.int (0 : Int32)), .val (.ref a_IDENTIFIER), .val (.ref b5), .val (.ref b12), .val (.ref b16), .val (.ref b17), .unset, .unset] [(.ref b17)])) rfl (by rw [hml]; rfl) (Steps.refl _) (argsL := []) (rest := []) (lenOf pd___Z rfl) rfl (by show 2 * 0 + _ ≤ _; exact Nat.le_of_eq rfl) (hb hby at_82) (fun _ _ => ⟨rfl, rfl, (by decide : 6 + 0 ≤ _), (by decide : 17 + 0 ≤ _)⟩)
    dsimp only [Pt.U, Pt.locs, Pt.cells, Pt.slots] at X19 l19 y19 z19 st19 hQ19
    subst l19 y19 z19
    obtain ⟨rfl, N19q, hp19⟩ := hQ19
    have N19 := Fr.app N18 N19q
    have f20 := (((Ex15.keep Kc16).ext E17).keep Kc18)
    obtain ⟨cq21, kq21, q21a, q21b, q21c⟩ := isOf hZ hp19 Ex18
    obtain ⟨_, _, ⟨T21, L21, k21, n21⟩, -, X21, ⟨Lc21, hQ21, l21, y21, z21⟩, st21⟩ := X19.virtualBack hx (y := own_m9) (z := own_m9) hown (mvT hZ (own_w hw 78 rfl)) (mvT hZ (own_w hw 79 rfl)) (notFace_of_selects (args := #[]) (mvT hZ (own_w hw 81 rfl))) (mvT hZ (own_w hw 81 rfl)) (mvT hZ (own_w hw 80 rfl)) (by decide) (backOf (W := 0) (rm_iss l Z a0 hw [] b17 b12 _ _ _ _ _ _ _ _ _ _ _ T18.heap n0 O18 hE G18_0 G18_1 f20) hZ (own_w hw 82 rfl) (own_w hw 54 rfl) (by decide) (by decide)) q21a q21c (g := (mkF m 117 #[.val (.int p0), .val (.int p1), .val (.int p2), .val (.int p3), .val (.int p4), .val (.int (0 : Int32)), .val (.ref a_IDENTIFIER), .val (.ref b5), .val (.ref b12), .val (.ref b16), .val (.ref b17), .val (.int (1 : Int32)), .val (.int (1 : Int32))] [(.ref b12), (.ref b17)])) rfl (by rw [hml]; rfl) (Steps.refl _) (argsL := [(.ref b12)]) (rest := []) (lenOf pd__Ljava_lang_String__Z rfl) rfl (by show 2 * 0 + _ ≤ _; exact Nat.le_of_eq rfl) (hb hby at_117) (fun _ _ => ⟨rfl, hp19, (by decide : 6 + 0 ≤ _), (by decide : 17 + 0 ≤ _)⟩)
    dsimp only [Pt.U, Pt.locs, Pt.cells, Pt.slots] at X21 l21 y21 z21 st21 hQ21
    subst l21 y21 z21
    obtain ⟨rfl, N21q, hp21⟩ := hQ21
    have N21 := Fr.app N19 N21q
    have k22 : ∀ t, own_At p e below m T21 126 #[.val (.int p0), .val (.int p1), .val (.int p2), .val (.int p3), .val (.int p4), .val (.int (0 : Int32)), .val (.ref a_IDENTIFIER), .val (.ref b5), .val (.ref b12), .val (.ref b16), .val (.ref b17), .val (.int (1 : Int32)), .val (.int (1 : Int32))] [(.int (1 : Int32))] t → own_En p e below m s₁ #[(.int p0), (.int p1), (.int p2), (.int p3), (.int p4)] maxLocals t := by
      intro t k
      refine k3 t ?_
      refine XS.istore X0.here hx rfl (hb hby at_7) rfl (l' := #[.val (.int p0), .val (.int p1), .val (.int p2), .val (.int p3), .val (.int p4), .val (.int (0 : Int32)), .unset, .unset, .unset, .unset, .unset, .unset, .unset]) rfl ?_
      show own_At p e below m s₁ 9 #[.val (.int p0), .val (.int p1), .val (.int p2), .val (.int p3), .val (.int p4), .val (.int (0 : Int32)), .unset, .unset, .unset, .unset, .unset, .unset, .unset] [] t
      refine XS.iload X0.here hx rfl (hb hby at_9) rfl ?_
      show own_At p e below m s₁ 11 #[.val (.int p0), .val (.int p1), .val (.int p2), .val (.int p3), .val (.int p4), .val (.int (0 : Int32)), .unset, .unset, .unset, .unset, .unset, .unset, .unset] [(.int (0 : Int32))] t
      refine st4 _ ?_
      show own_At p e below m T4 14 #[.val (.int p0), .val (.int p1), .val (.int p2), .val (.int p3), .val (.int p4), .val (.int (0 : Int32)), .unset, .unset, .unset, .unset, .unset, .unset, .unset] [(.ref a_IDENTIFIER)] t
      refine XS.astore X4.here hx rfl (hb hby at_14) rfl rfl (l' := #[.val (.int p0), .val (.int p1), .val (.int p2), .val (.int p3), .val (.int p4), .val (.int (0 : Int32)), .val (.ref a_IDENTIFIER), .unset, .unset, .unset, .unset, .unset, .unset]) rfl ?_
      show own_At p e below m T4 16 #[.val (.int p0), .val (.int p1), .val (.int p2), .val (.int p3), .val (.int p4), .val (.int (0 : Int32)), .val (.ref a_IDENTIFIER), .unset, .unset, .unset, .unset, .unset, .unset] [] t
      refine XS.iconst X4.here hx rfl (hb hby at_16) ?_
      show own_At p e below m T4 17 #[.val (.int p0), .val (.int p1), .val (.int p2), .val (.int p3), .val (.int p4), .val (.int (0 : Int32)), .val (.ref a_IDENTIFIER), .unset, .unset, .unset, .unset, .unset, .unset] [(.int (2 : Int32))] t
      refine st5 _ ?_
      show own_At p e below m T5 19 #[.val (.int p0), .val (.int p1), .val (.int p2), .val (.int p3), .val (.int p4), .val (.int (0 : Int32)), .val (.ref a_IDENTIFIER), .unset, .unset, .unset, .unset, .unset, .unset] [(.ref b5)] t
      refine XS.astore X5.here hx rfl (hb hby at_19) rfl rfl (l' := #[.val (.int p0), .val (.int p1), .val (.int p2), .val (.int p3), .val (.int p4), .val (.int (0 : Int32)), .val (.ref a_IDENTIFIER), .val (.ref b5), .unset, .unset, .unset, .unset, .unset]) rfl ?_
      show own_At p e below m T5 21 #[.val (.int p0), .val (.int p1), .val (.int p2), .val (.int p3), .val (.int p4), .val (.int (0 : Int32)), .val (.ref a_IDENTIFIER), .val (.ref b5), .unset, .unset, .unset, .unset, .unset] [] t
      refine XS.aload X5.here hx rfl (hb hby at_21) rfl rfl ?_
      show own_At p e below m T5 23 #[.val (.int p0), .val (.int p1), .val (.int p2), .val (.int p3), .val (.int p4), .val (.int (0 : Int32)), .val (.ref a_IDENTIFIER), .val (.ref b5), .unset, .unset, .unset, .unset, .unset] [(.ref b5)] t
      refine XS.iconst X5.here hx rfl (hb hby at_23) ?_
      show own_At p e below m T5 24 #[.val (.int p0), .val (.int p1), .val (.int p2), .val (.int p3), .val (.int p4), .val (.int (0 : Int32)), .val (.ref a_IDENTIFIER), .val (.ref b5), .unset, .unset, .unset, .unset, .unset] [(.int (0 : Int32)), (.ref b5)] t
      refine XS.iloadN X5.here hx rfl (hb hby at_24) rfl ?_
      show own_At p e below m T5 25 #[.val (.int p0), .val (.int p1), .val (.int p2), .val (.int p3), .val (.int p4), .val (.int (0 : Int32)), .val (.ref a_IDENTIFIER), .val (.ref b5), .unset, .unset, .unset, .unset, .unset] [(.int p1), (.int (0 : Int32)), (.ref b5)] t
      refine XS.sipush X5.here hx rfl (hb hby at_25) ?_
      show own_At p e below m T5 28 #[.val (.int p0), .val (.int p1), .val (.int p2), .val (.int p3), .val (.int p4), .val (.int (0 : Int32)), .val (.ref a_IDENTIFIER), .val (.ref b5), .unset, .unset, .unset, .unset, .unset] [(.int (255 : Int32)), (.int p1), (.int (0 : Int32)), (.ref b5)] t
      refine XS.iand X5.here hx rfl (hb hby at_28) rfl ?_
      show own_At p e below m T5 29 #[.val (.int p0), .val (.int p1), .val (.int p2), .val (.int p3), .val (.int p4), .val (.int (0 : Int32)), .val (.ref a_IDENTIFIER), .val (.ref b5), .unset, .unset, .unset, .unset, .unset] [(.int (p1 &&& (255 : Int32))), (.int (0 : Int32)), (.ref b5)] t
      refine XS.i2c X5.here hx rfl (hb hby at_29) rfl ?_
      show own_At p e below m T5 30 #[.val (.int p0), .val (.int p1), .val (.int p2), .val (.int p3), .val (.int p4), .val (.int (0 : Int32)), .val (.ref a_IDENTIFIER), .val (.ref b5), .unset, .unset, .unset, .unset, .unset] [(.int ((p1 &&& (255 : Int32)).toUInt32.toUInt16.toUInt32.toInt32)), (.int (0 : Int32)), (.ref b5)] t
      refine st8 _ ?_
      show own_At p e below m T8 31 #[.val (.int p0), .val (.int p1), .val (.int p2), .val (.int p3), .val (.int p4), .val (.int (0 : Int32)), .val (.ref a_IDENTIFIER), .val (.ref b5), .unset, .unset, .unset, .unset, .unset] [] t
      refine XS.aload X8.here hx rfl (hb hby at_31) rfl rfl ?_
      show own_At p e below m T8 33 #[.val (.int p0), .val (.int p1), .val (.int p2), .val (.int p3), .val (.int p4), .val (.int (0 : Int32)), .val (.ref a_IDENTIFIER), .val (.ref b5), .unset, .unset, .unset, .unset, .unset] [(.ref b5)] t
      refine XS.iconst X8.here hx rfl (hb hby at_33) ?_
      show own_At p e below m T8 34 #[.val (.int p0), .val (.int p1), .val (.int p2), .val (.int p3), .val (.int p4), .val (.int (0 : Int32)), .val (.ref a_IDENTIFIER), .val (.ref b5), .unset, .unset, .unset, .unset, .unset] [(.int (1 : Int32)), (.ref b5)] t
      refine XS.iloadN X8.here hx rfl (hb hby at_34) rfl ?_
      show own_At p e below m T8 35 #[.val (.int p0), .val (.int p1), .val (.int p2), .val (.int p3), .val (.int p4), .val (.int (0 : Int32)), .val (.ref a_IDENTIFIER), .val (.ref b5), .unset, .unset, .unset, .unset, .unset] [(.int p2), (.int (1 : Int32)), (.ref b5)] t
      refine XS.sipush X8.here hx rfl (hb hby at_35) ?_
      show own_At p e below m T8 38 #[.val (.int p0), .val (.int p1), .val (.int p2), .val (.int p3), .val (.int p4), .val (.int (0 : Int32)), .val (.ref a_IDENTIFIER), .val (.ref b5), .unset, .unset, .unset, .unset, .unset] [(.int (255 : Int32)), (.int p2), (.int (1 : Int32)), (.ref b5)] t
      refine XS.iand X8.here hx rfl (hb hby at_38) rfl ?_
      show own_At p e below m T8 39 #[.val (.int p0), .val (.int p1), .val (.int p2), .val (.int p3), .val (.int p4), .val (.int (0 : Int32)), .val (.ref a_IDENTIFIER), .val (.ref b5), .unset, .unset, .unset, .unset, .unset] [(.int (p2 &&& (255 : Int32))), (.int (1 : Int32)), (.ref b5)] t
      refine XS.i2c X8.here hx rfl (hb hby at_39) rfl ?_
      show own_At p e below m T8 40 #[.val (.int p0), .val (.int p1), .val (.int p2), .val (.int p3), .val (.int p4), .val (.int (0 : Int32)), .val (.ref a_IDENTIFIER), .val (.ref b5), .unset, .unset, .unset, .unset, .unset] [(.int ((p2 &&& (255 : Int32)).toUInt32.toUInt16.toUInt32.toInt32)), (.int (1 : Int32)), (.ref b5)] t
      refine st11 _ ?_
      show own_At p e below m T11 41 #[.val (.int p0), .val (.int p1), .val (.int p2), .val (.int p3), .val (.int p4), .val (.int (0 : Int32)), .val (.ref a_IDENTIFIER), .val (.ref b5), .unset, .unset, .unset, .unset, .unset] [] t
      refine st12 _ ?_
      show own_At p e below m T12 44 #[.val (.int p0), .val (.int p1), .val (.int p2), .val (.int p3), .val (.int p4), .val (.int (0 : Int32)), .val (.ref a_IDENTIFIER), .val (.ref b5), .unset, .unset, .unset, .unset, .unset] [(.ref b12)] t
      refine XS.dup X12.here hx rfl (hb hby at_44) rfl rfl ?_
      show own_At p e below m T12 45 #[.val (.int p0), .val (.int p1), .val (.int p2), .val (.int p3), .val (.int p4), .val (.int (0 : Int32)), .val (.ref a_IDENTIFIER), .val (.ref b5), .unset, .unset, .unset, .unset, .unset] [(.ref b12), (.ref b12)] t
      refine XS.aload X12.here hx rfl (hb hby at_45) rfl rfl ?_
      show own_At p e below m T12 47 #[.val (.int p0), .val (.int p1), .val (.int p2), .val (.int p3), .val (.int p4), .val (.int (0 : Int32)), .val (.ref a_IDENTIFIER), .val (.ref b5), .unset, .unset, .unset, .unset, .unset] [(.ref b5), (.ref b12), (.ref b12)] t
      refine st15.trans ?_
      show own_At p e below m T15 50 #[.val (.int p0), .val (.int p1), .val (.int p2), .val (.int p3), .val (.int p4), .val (.int (0 : Int32)), .val (.ref a_IDENTIFIER), .val (.ref b5), .unset, .unset, .unset, .unset, .unset] [(.ref b12)] t
      refine XS.astore X15.here hx rfl (hb hby at_50) rfl rfl (l' := #[.val (.int p0), .val (.int p1), .val (.int p2), .val (.int p3), .val (.int p4), .val (.int (0 : Int32)), .val (.ref a_IDENTIFIER), .val (.ref b5), .val (.ref b12), .unset, .unset, .unset, .unset]) rfl ?_
      show own_At p e below m T15 52 #[.val (.int p0), .val (.int p1), .val (.int p2), .val (.int p3), .val (.int p4), .val (.int (0 : Int32)), .val (.ref a_IDENTIFIER), .val (.ref b5), .val (.ref b12), .unset, .unset, .unset, .unset] [] t
      refine XS.iloadN X15.here hx rfl (hb hby at_52) rfl ?_
      show own_At p e below m T15 53 #[.val (.int p0), .val (.int p1), .val (.int p2), .val (.int p3), .val (.int p4), .val (.int (0 : Int32)), .val (.ref a_IDENTIFIER), .val (.ref b5), .val (.ref b12), .unset, .unset, .unset, .unset] [(.int p3)] t
      refine XS.sipush X15.here hx rfl (hb hby at_53) ?_
      show own_At p e below m T15 56 #[.val (.int p0), .val (.int p1), .val (.int p2), .val (.int p3), .val (.int p4), .val (.int (0 : Int32)), .val (.ref a_IDENTIFIER), .val (.ref b5), .val (.ref b12), .unset, .unset, .unset, .unset] [(.int (255 : Int32)), (.int p3)] t
      refine XS.iand X15.here hx rfl (hb hby at_56) rfl ?_
      show own_At p e below m T15 57 #[.val (.int p0), .val (.int p1), .val (.int p2), .val (.int p3), .val (.int p4), .val (.int (0 : Int32)), .val (.ref a_IDENTIFIER), .val (.ref b5), .val (.ref b12), .unset, .unset, .unset, .unset] [(.int (p3 &&& (255 : Int32)))] t
      refine XS.i2c X15.here hx rfl (hb hby at_57) rfl ?_
      show own_At p e below m T15 58 #[.val (.int p0), .val (.int p1), .val (.int p2), .val (.int p3), .val (.int p4), .val (.int (0 : Int32)), .val (.ref a_IDENTIFIER), .val (.ref b5), .val (.ref b12), .unset, .unset, .unset, .unset] [(.int ((p3 &&& (255 : Int32)).toUInt32.toUInt16.toUInt32.toInt32))] t
      refine st16 _ ?_
      show own_At p e below m T16 61 #[.val (.int p0), .val (.int p1), .val (.int p2), .val (.int p3), .val (.int p4), .val (.int (0 : Int32)), .val (.ref a_IDENTIFIER), .val (.ref b5), .val (.ref b12), .unset, .unset, .unset, .unset] [(.ref b16)] t
      refine XS.astore X16.here hx rfl (hb hby at_61) rfl rfl (l' := #[.val (.int p0), .val (.int p1), .val (.int p2), .val (.int p3), .val (.int p4), .val (.int (0 : Int32)), .val (.ref a_IDENTIFIER), .val (.ref b5), .val (.ref b12), .val (.ref b16), .unset, .unset, .unset]) rfl ?_
      show own_At p e below m T16 63 #[.val (.int p0), .val (.int p1), .val (.int p2), .val (.int p3), .val (.int p4), .val (.int (0 : Int32)), .val (.ref a_IDENTIFIER), .val (.ref b5), .val (.ref b12), .val (.ref b16), .unset, .unset, .unset] [] t
      refine st17 _ ?_
      show own_At p e below m T17 66 #[.val (.int p0), .val (.int p1), .val (.int p2), .val (.int p3), .val (.int p4), .val (.int (0 : Int32)), .val (.ref a_IDENTIFIER), .val (.ref b5), .val (.ref b12), .val (.ref b16), .unset, .unset, .unset] [(.ref b17)] t
      refine XS.dup X17.here hx rfl (hb hby at_66) rfl rfl ?_
      show own_At p e below m T17 67 #[.val (.int p0), .val (.int p1), .val (.int p2), .val (.int p3), .val (.int p4), .val (.int (0 : Int32)), .val (.ref a_IDENTIFIER), .val (.ref b5), .val (.ref b12), .val (.ref b16), .unset, .unset, .unset] [(.ref b17), (.ref b17)] t
      refine XS.aload X17.here hx rfl (hb hby at_67) rfl rfl ?_
      show own_At p e below m T17 69 #[.val (.int p0), .val (.int p1), .val (.int p2), .val (.int p3), .val (.int p4), .val (.int (0 : Int32)), .val (.ref a_IDENTIFIER), .val (.ref b5), .val (.ref b12), .val (.ref b16), .unset, .unset, .unset] [(.ref a_IDENTIFIER), (.ref b17), (.ref b17)] t
      refine XS.aload X17.here hx rfl (hb hby at_69) rfl rfl ?_
      show own_At p e below m T17 71 #[.val (.int p0), .val (.int p1), .val (.int p2), .val (.int p3), .val (.int p4), .val (.int (0 : Int32)), .val (.ref a_IDENTIFIER), .val (.ref b5), .val (.ref b12), .val (.ref b16), .unset, .unset, .unset] [(.ref b12), (.ref a_IDENTIFIER), (.ref b17), (.ref b17)] t
      refine XS.aload X17.here hx rfl (hb hby at_71) rfl rfl ?_
      show own_At p e below m T17 73 #[.val (.int p0), .val (.int p1), .val (.int p2), .val (.int p3), .val (.int p4), .val (.int (0 : Int32)), .val (.ref a_IDENTIFIER), .val (.ref b5), .val (.ref b12), .val (.ref b16), .unset, .unset, .unset] [(.ref b16), (.ref b12), (.ref a_IDENTIFIER), (.ref b17), (.ref b17)] t
      refine XS.iload X17.here hx rfl (hb hby at_73) rfl ?_
      show own_At p e below m T17 75 #[.val (.int p0), .val (.int p1), .val (.int p2), .val (.int p3), .val (.int p4), .val (.int (0 : Int32)), .val (.ref a_IDENTIFIER), .val (.ref b5), .val (.ref b12), .val (.ref b16), .unset, .unset, .unset] [(.int p4), (.ref b16), (.ref b12), (.ref a_IDENTIFIER), (.ref b17), (.ref b17)] t
      refine st18.trans ?_
      show own_At p e below m T18 78 #[.val (.int p0), .val (.int p1), .val (.int p2), .val (.int p3), .val (.int p4), .val (.int (0 : Int32)), .val (.ref a_IDENTIFIER), .val (.ref b5), .val (.ref b12), .val (.ref b16), .unset, .unset, .unset] [(.ref b17)] t
      refine XS.astore X18.here hx rfl (hb hby at_78) rfl rfl (l' := #[.val (.int p0), .val (.int p1), .val (.int p2), .val (.int p3), .val (.int p4), .val (.int (0 : Int32)), .val (.ref a_IDENTIFIER), .val (.ref b5), .val (.ref b12), .val (.ref b16), .val (.ref b17), .unset, .unset]) rfl ?_
      show own_At p e below m T18 80 #[.val (.int p0), .val (.int p1), .val (.int p2), .val (.int p3), .val (.int p4), .val (.int (0 : Int32)), .val (.ref a_IDENTIFIER), .val (.ref b5), .val (.ref b12), .val (.ref b16), .val (.ref b17), .unset, .unset] [] t
      refine XS.aload X18.here hx rfl (hb hby at_80) rfl rfl ?_
      show own_At p e below m T18 82 #[.val (.int p0), .val (.int p1), .val (.int p2), .val (.int p3), .val (.int p4), .val (.int (0 : Int32)), .val (.ref a_IDENTIFIER), .val (.ref b5), .val (.ref b12), .val (.ref b16), .val (.ref b17), .unset, .unset] [(.ref b17)] t
      refine st19.trans ?_
      show own_At p e below m T19 85 #[.val (.int p0), .val (.int p1), .val (.int p2), .val (.int p3), .val (.int p4), .val (.int (0 : Int32)), .val (.ref a_IDENTIFIER), .val (.ref b5), .val (.ref b12), .val (.ref b16), .val (.ref b17), .unset, .unset] [(.int (1 : Int32))] t
      refine XS.istore X19.here hx rfl (hb hby at_85) rfl (l' := #[.val (.int p0), .val (.int p1), .val (.int p2), .val (.int p3), .val (.int p4), .val (.int (0 : Int32)), .val (.ref a_IDENTIFIER), .val (.ref b5), .val (.ref b12), .val (.ref b16), .val (.ref b17), .val (.int (1 : Int32)), .unset]) rfl ?_
      show own_At p e below m T19 87 #[.val (.int p0), .val (.int p1), .val (.int p2), .val (.int p3), .val (.int p4), .val (.int (0 : Int32)), .val (.ref a_IDENTIFIER), .val (.ref b5), .val (.ref b12), .val (.ref b16), .val (.ref b17), .val (.int (1 : Int32)), .unset] [] t
      refine XS.iload X19.here hx rfl (hb hby at_87) rfl ?_
      show own_At p e below m T19 89 #[.val (.int p0), .val (.int p1), .val (.int p2), .val (.int p3), .val (.int p4), .val (.int (0 : Int32)), .val (.ref a_IDENTIFIER), .val (.ref b5), .val (.ref b12), .val (.ref b16), .val (.ref b17), .val (.int (1 : Int32)), .unset] [(.int (0 : Int32))] t
      refine XS.ifNo X19.here hx rfl (hb hby at_89) rfl ((if0 _ _).trans (teq (by decide : (0 : Int32) = (0 : Int32))).2) ?_
      show own_At p e below m T19 92 #[.val (.int p0), .val (.int p1), .val (.int p2), .val (.int p3), .val (.int p4), .val (.int (0 : Int32)), .val (.ref a_IDENTIFIER), .val (.ref b5), .val (.ref b12), .val (.ref b16), .val (.ref b17), .val (.int (1 : Int32)), .unset] [] t
      refine XS.iconst X19.here hx rfl (hb hby at_92) ?_
      show own_At p e below m T19 93 #[.val (.int p0), .val (.int p1), .val (.int p2), .val (.int p3), .val (.int p4), .val (.int (0 : Int32)), .val (.ref a_IDENTIFIER), .val (.ref b5), .val (.ref b12), .val (.ref b16), .val (.ref b17), .val (.int (1 : Int32)), .unset] [(.int (1 : Int32))] t
      refine XS.goto X19.here hx rfl (pc0 := 93) (pc' := 97) rfl (hb hby at_93) (by decide) (by decide) ?_
      show own_At p e below m T19 97 #[.val (.int p0), .val (.int p1), .val (.int p2), .val (.int p3), .val (.int p4), .val (.int (0 : Int32)), .val (.ref a_IDENTIFIER), .val (.ref b5), .val (.ref b12), .val (.ref b16), .val (.ref b17), .val (.int (1 : Int32)), .unset] [(.int (1 : Int32))] t
      refine XS.istore X19.here hx rfl (hb hby at_97) rfl (l' := #[.val (.int p0), .val (.int p1), .val (.int p2), .val (.int p3), .val (.int p4), .val (.int (0 : Int32)), .val (.ref a_IDENTIFIER), .val (.ref b5), .val (.ref b12), .val (.ref b16), .val (.ref b17), .val (.int (1 : Int32)), .val (.int (1 : Int32))]) rfl ?_
      show own_At p e below m T19 99 #[.val (.int p0), .val (.int p1), .val (.int p2), .val (.int p3), .val (.int p4), .val (.int (0 : Int32)), .val (.ref a_IDENTIFIER), .val (.ref b5), .val (.ref b12), .val (.ref b16), .val (.ref b17), .val (.int (1 : Int32)), .val (.int (1 : Int32))] [] t
      refine XS.iload X19.here hx rfl (hb hby at_99) rfl ?_
      show own_At p e below m T19 101 #[.val (.int p0), .val (.int p1), .val (.int p2), .val (.int p3), .val (.int p4), .val (.int (0 : Int32)), .val (.ref a_IDENTIFIER), .val (.ref b5), .val (.ref b12), .val (.ref b16), .val (.ref b17), .val (.int (1 : Int32)), .val (.int (1 : Int32))] [(.int (1 : Int32))] t
      refine XS.iload X19.here hx rfl (hb hby at_101) rfl ?_
      show own_At p e below m T19 103 #[.val (.int p0), .val (.int p1), .val (.int p2), .val (.int p3), .val (.int p4), .val (.int (0 : Int32)), .val (.ref a_IDENTIFIER), .val (.ref b5), .val (.ref b12), .val (.ref b16), .val (.ref b17), .val (.int (1 : Int32)), .val (.int (1 : Int32))] [(.int (1 : Int32)), (.int (1 : Int32))] t
      refine XS.icmpYes X19.here hx rfl (pc0 := 103) (pc' := 108) rfl (hb hby at_103) rfl (teq (by decide : (1 : Int32) = (1 : Int32))).1 (by decide) (by decide) ?_
      show own_At p e below m T19 108 #[.val (.int p0), .val (.int p1), .val (.int p2), .val (.int p3), .val (.int p4), .val (.int (0 : Int32)), .val (.ref a_IDENTIFIER), .val (.ref b5), .val (.ref b12), .val (.ref b16), .val (.ref b17), .val (.int (1 : Int32)), .val (.int (1 : Int32))] [] t
      refine XS.iload X19.here hx rfl (hb hby at_108) rfl ?_
      show own_At p e below m T19 110 #[.val (.int p0), .val (.int p1), .val (.int p2), .val (.int p3), .val (.int p4), .val (.int (0 : Int32)), .val (.ref a_IDENTIFIER), .val (.ref b5), .val (.ref b12), .val (.ref b16), .val (.ref b17), .val (.int (1 : Int32)), .val (.int (1 : Int32))] [(.int (1 : Int32))] t
      refine XS.ifNo X19.here hx rfl (hb hby at_110) rfl ((if0 _ _).trans (feq (by decide : ¬ ((1 : Int32) = (0 : Int32)))).1) ?_
      show own_At p e below m T19 113 #[.val (.int p0), .val (.int p1), .val (.int p2), .val (.int p3), .val (.int p4), .val (.int (0 : Int32)), .val (.ref a_IDENTIFIER), .val (.ref b5), .val (.ref b12), .val (.ref b16), .val (.ref b17), .val (.int (1 : Int32)), .val (.int (1 : Int32))] [] t
      refine XS.aload X19.here hx rfl (hb hby at_113) rfl rfl ?_
      show own_At p e below m T19 115 #[.val (.int p0), .val (.int p1), .val (.int p2), .val (.int p3), .val (.int p4), .val (.int (0 : Int32)), .val (.ref a_IDENTIFIER), .val (.ref b5), .val (.ref b12), .val (.ref b16), .val (.ref b17), .val (.int (1 : Int32)), .val (.int (1 : Int32))] [(.ref b17)] t
      refine XS.aload X19.here hx rfl (hb hby at_115) rfl rfl ?_
      show own_At p e below m T19 117 #[.val (.int p0), .val (.int p1), .val (.int p2), .val (.int p3), .val (.int p4), .val (.int (0 : Int32)), .val (.ref a_IDENTIFIER), .val (.ref b5), .val (.ref b12), .val (.ref b16), .val (.ref b17), .val (.int (1 : Int32)), .val (.int (1 : Int32))] [(.ref b12), (.ref b17)] t
      refine st21.trans ?_
      show own_At p e below m T21 120 #[.val (.int p0), .val (.int p1), .val (.int p2), .val (.int p3), .val (.int p4), .val (.int (0 : Int32)), .val (.ref a_IDENTIFIER), .val (.ref b5), .val (.ref b12), .val (.ref b16), .val (.ref b17), .val (.int (1 : Int32)), .val (.int (1 : Int32))] [(.int (1 : Int32))] t
      refine XS.ifYes X21.here hx rfl (pc0 := 120) (pc' := 125) rfl (hb hby at_120) rfl ((if0 _ _).trans (feq (by decide : ¬ ((1 : Int32) = (0 : Int32)))).2) (by decide) (by decide) ?_
      show own_At p e below m T21 125 #[.val (.int p0), .val (.int p1), .val (.int p2), .val (.int p3), .val (.int p4), .val (.int (0 : Int32)), .val (.ref a_IDENTIFIER), .val (.ref b5), .val (.ref b12), .val (.ref b16), .val (.ref b17), .val (.int (1 : Int32)), .val (.int (1 : Int32))] [] t
      refine XS.iconst X21.here hx rfl (hb hby at_125) ?_
      show own_At p e below m T21 126 #[.val (.int p0), .val (.int p1), .val (.int p2), .val (.int p3), .val (.int p4), .val (.int (0 : Int32)), .val (.ref a_IDENTIFIER), .val (.ref b5), .val (.ref b12), .val (.ref b16), .val (.ref b17), .val (.int (1 : Int32)), .val (.int (1 : Int32))] [(.int (1 : Int32))] t
      exact k
    obtain ⟨fs, hr, hrun, hended, hW, hsame⟩ := X21.leave (v := some (.int (1 : Int32))) (fun h => by rw [Bd.returns] at h; cases h)
    refine hNG ⟨_, _, k22 _ ?_, hrun, hended, _, _, rfl, ?_, ⟨_, rfl⟩, hW, hsame.mono (by decide) (by decide)⟩
    · exact retN X21 hx (t := .boolean) Bd.returns (by simp) (hb hby at_126) hr
    · show Q_law Z p0 p1 p2 p3 p4 a_IDENTIFIER a_SYMBOL a_DIRECTIVE a_END a_FILE_START a_FILE_END a_NUMBER a_LITERAL a_PRAGMA_PREFIX z_COMPACT_STRINGS r_SIOOBE_FORMATTER h0 n0 _ T21.heap _
      rw [hp21]
      exact ⟨rfl, N21⟩
  · obtain ⟨_, _, ⟨T23, L23, k23, n23⟩, -, X23, ⟨Lc23, hQ23, l23, y23, z23⟩, st23⟩ := Jvm.LawKit.callS X0 hx (y := own_m0) hown (mvT hZ (own_w hw 1 rfl)) (mvT hZ (own_w hw 2 rfl)) (mvT hZ (own_w hw 3 rfl)) (mvT hZ (own_w hw 4 rfl)) (by decide) (backOf (W := 0) (rm_ka l Z a0 hw [] ((p0 &&& (2147483647 : Int32)) % (9 : Int32)) _ _ _ _ _ _ _ _ _ _ _ h0 n0 O0 hE hc2) hZ (own_w hw 4 rfl) (own_w hw 3 rfl) (by decide) (by decide)) (g := (mkF m 11 #[.val (.int p0), .val (.int p1), .val (.int p2), .val (.int p3), .val (.int p4), .val (.int ((p0 &&& (2147483647 : Int32)) % (9 : Int32))), .unset, .unset, .unset, .unset, .unset, .unset, .unset] [(.int ((p0 &&& (2147483647 : Int32)) % (9 : Int32)))])) rfl (by rw [hml]; rfl) (argsL := [(.int ((p0 &&& (2147483647 : Int32)) % (9 : Int32)))]) (rest := []) (lenOf pd__I_Lcom_example_gate3_gate3_io_Token_Kind_ rfl) rfl (by show 2 * 0 + _ ≤ _; exact Nat.le_of_eq rfl) (hb hby at_11) (fun _ _ => ⟨rfl, e0, (by decide : 0 + 0 ≤ _), (by decide : 0 + 0 ≤ _)⟩)
    dsimp only [Pt.U, Pt.locs, Pt.cells, Pt.slots] at X23 l23 y23 z23 st23 hQ23
    subst l23 y23 z23
    obtain ⟨ad23, rfl, N23q, hp23, ne23⟩ := hQ23
    have N23 := Fr.app N0 N23q
    obtain ⟨T24, h24, c24, X24, e24, E24, A24, st24⟩ := newP X23 hx hZ (own_w hw 8 rfl) hp23 (g := (mkF m 17 #[.val (.int p0), .val (.int p1), .val (.int p2), .val (.int p3), .val (.int p4), .val (.int ((p0 &&& (2147483647 : Int32)) % (9 : Int32))), .val (.ref ad23), .unset, .unset, .unset, .unset, .unset, .unset] [(.int (2 : Int32))])) rfl (hb hby at_17) rfl (by decide) (cap := 2) (by decide) (by decide) (by decide) (by decide)
    obtain ⟨b24, g24⟩ : ∃ z, z = h0.size := ⟨_, rfl⟩
    rw [← g24] at A24 st24
    have O24 := O0.ext E24
    have g_b24 : n0 ≤ b24 := Nat.le_trans (Nat.le_of_eq O0.1.symm) (Nat.le_trans O0.2.1 (Nat.le_of_eq g24.symm))
    have s_b24 : h0.size ≤ b24 := Nat.le_trans K0.1 (Nat.le_of_eq g24.symm)
    have K24 := K0.ext E24
    have V24 : Arv Z h24 b24 c24 .char (2 : Int32) [(.int (0 : Int32)), (.int (0 : Int32))] (.int (0 : Int32)) := (Arv.new A24 (by decide)).pad (pad_rep [] (.int (0 : Int32)) 2)
    have lt_b24 := V24.lt
    obtain ⟨cl25, Ar25, q25, Sz25, Nn25, Hs25, Gf25⟩ := id V24
    have hin26 : ¬ ((0 : Int32) < 0 ∨ cl25.slots.size ≤ ((0 : Int32)).toNatClampNeg) := inb_of Sz25 ⟨by decide, by decide⟩
    obtain ⟨T27, h27, X27, e27, W27, st27⟩ := stC X24 hx hZ e24 Ar25 (j := (0 : Int32)) hin26 (g := (mkF m 30 #[.val (.int p0), .val (.int p1), .val (.int p2), .val (.int p3), .val (.int p4), .val (.int ((p0 &&& (2147483647 : Int32)) % (9 : Int32))), .val (.ref ad23), .val (.ref b24), .unset, .unset, .unset, .unset, .unset] [(.int ((p1 &&& (255 : Int32)).toUInt32.toUInt16.toUInt32.toInt32)), (.int (0 : Int32)), (.ref b24)])) rfl rfl (hb hby at_30)
    have V27 : Arv Z h27 b24 c24 .char (2 : Int32) [(.int ((p1 &&& (255 : Int32)).toUInt32.toUInt16.toUInt32.toInt32)), (.int (0 : Int32))] (.int (0 : Int32)) := by
      have q := Arv.set Ar25 q25 Sz25 Nn25 Hs25 Gf25 (fits_nar_char _) W27 0 rfl (Nat.le_of_ble_eq_true rfl)
      first | exact q | (simp only [own_narc] at q; exact q)
    have N27 := Fr.snoc X27 N23 g_b24
    have O27 := O24.wr W27 g_b24
    have K27 := K24.wr W27 (Or.inr s_b24)
    obtain ⟨cl28, Ar28, q28, Sz28, Nn28, Hs28, Gf28⟩ := id V27
    have hin29 : ¬ ((1 : Int32) < 0 ∨ cl28.slots.size ≤ ((1 : Int32)).toNatClampNeg) := inb_of Sz28 ⟨by decide, by decide⟩
    obtain ⟨T30, h30, X30, e30, W30, st30⟩ := stC X27 hx hZ e27 Ar28 (j := (1 : Int32)) hin29 (g := (mkF m 40 #[.val (.int p0), .val (.int p1), .val (.int p2), .val (.int p3), .val (.int p4), .val (.int ((p0 &&& (2147483647 : Int32)) % (9 : Int32))), .val (.ref ad23), .val (.ref b24), .unset, .unset, .unset, .unset, .unset] [(.int ((p2 &&& (255 : Int32)).toUInt32.toUInt16.toUInt32.toInt32)), (.int (1 : Int32)), (.ref b24)])) rfl rfl (hb hby at_40)
    have V30 : Arv Z h30 b24 c24 .char (2 : Int32) [(.int ((p1 &&& (255 : Int32)).toUInt32.toUInt16.toUInt32.toInt32)), (.int ((p2 &&& (255 : Int32)).toUInt32.toUInt16.toUInt32.toInt32))] (.int (0 : Int32)) := by
      have q := Arv.set Ar28 q28 Sz28 Nn28 Hs28 Gf28 (fits_nar_char _) W30 1 rfl (Nat.le_of_ble_eq_true rfl)
      first | exact q | (simp only [own_narc] at q; exact q)
    have N30 := Fr.snoc X30 N27 g_b24
    have O30 := O27.wr W30 g_b24
    have K30 := K27.wr W30 (Or.inr s_b24)
    obtain ⟨T31, h31, X31, e31, E31, A31, D31, -, st31⟩ := newO X30 hx hZ hown (own_w hw 9 rfl) (own_w hw 10 rfl) (own_w hw 11 rfl) e30 (g := (mkF m 41 #[.val (.int p0), .val (.int p1), .val (.int p2), .val (.int p3), .val (.int p4), .val (.int ((p0 &&& (2147483647 : Int32)) % (9 : Int32))), .val (.ref ad23), .val (.ref b24), .unset, .unset, .unset, .unset, .unset] [])) rfl (hb hby at_41) (by decide) (by decide)
    obtain ⟨b31, g31⟩ : ∃ z, z = h30.size := ⟨_, rfl⟩
    rw [← g31] at A31 D31 st31
    have O31 := O30.ext E31
    have g_b31 : n0 ≤ b31 := Nat.le_trans (Nat.le_of_eq O30.1.symm) (Nat.le_trans O30.2.1 (Nat.le_of_eq g31.symm))
    have s_b31 : h0.size ≤ b31 := Nat.le_trans K30.1 (Nat.le_of_eq g31.symm)
    have K31 := K30.ext E31
    have lt_b31 := A31.lt
    have F31_coder : Fld Z h31 b31 "java/lang/String" "coder" "B" (.int (0 : Int32)) := D31 (Or.inr (own_w hw 35 rfl)) (ty := .byte) (by decide)
    have F31_value : Fld Z h31 b31 "java/lang/String" "value" "[B" .null := D31 (Or.inr (own_w hw 37 rfl)) (ty := (.array .byte)) (by decide)
    have f32 := (V30.ext E31)
    have hp33 : ∀ c ∈ ([((p1 &&& (255 : Int32)).toUInt32.toUInt16.toUInt32.toInt32), ((p2 &&& (255 : Int32)).toUInt32.toUInt16.toUInt32.toInt32)] : List Int32), ¬ c < 0 ∧ ¬ (255 : Int32) < c := by
      intro c hc
      simp only [List.mem_cons, List.not_mem_nil, or_false] at hc
      rcases hc with rfl | rfl
      · exact own_and255 _
      · exact own_and255 _
    obtain ⟨_, _, ⟨T34, L34, k34, n34⟩, -, X34, ⟨Lc34, hQ34, l34, y34, z34⟩, st34⟩ := X31.specialBack hx (y := own_m10) rfl hown (mvT hZ (own_w hw 12 rfl)) (mvT hZ (own_w hw 13 rfl)) (mvT hZ (own_w hw 14 rfl)) (by decide) (StrChars.Road.backV (W := 1) hZ (own_hws hw) (kI := 4) (own_w hw 10 rfl) (cs := ([((p1 &&& (255 : Int32)).toUInt32.toUInt16.toUInt32.toInt32), ((p2 &&& (255 : Int32)).toUInt32.toUInt16.toUInt32.toInt32)] : List Int32)) (bs := (([((p1 &&& (255 : Int32)).toUInt32.toUInt16.toUInt32.toInt32), ((p2 &&& (255 : Int32)).toUInt32.toUInt16.toUInt32.toInt32)] : List Int32)).map (fun c => c.toInt8.toInt32)) (n := 2) g_b31 (Nat.le_trans (Nat.le_of_eq O31.1.symm) O31.2.1) A31 F31_value F31_coder f32 (S_COMPACT_STRINGS.ext O31.2) nz_COMPACT_STRINGS rfl rfl (by decide) (by decide) hp33 rfl (by decide) (by decide)) (g := (mkF m 47 #[.val (.int p0), .val (.int p1), .val (.int p2), .val (.int p3), .val (.int p4), .val (.int ((p0 &&& (2147483647 : Int32)) % (9 : Int32))), .val (.ref ad23), .val (.ref b24), .unset, .unset, .unset, .unset, .unset] [(.ref b24), (.ref b31), (.ref b31)])) rfl (by rw [hml]; rfl) (Steps.refl _) (a := b31) (argsL := [(.ref b24)]) (rest := [(.ref b31)]) (lenOf pd___C_V rfl) rfl (by show 2 * 0 + _ ≤ _; exact Nat.le_of_eq rfl) (hb hby at_47) (fun _ _ => ⟨rfl, e31, (by decide : 2 + 1 ≤ _), (by decide : 6 + 2 ≤ _)⟩)
    dsimp only [Pt.U, Pt.locs, Pt.cells, Pt.slots] at X34 l34 y34 z34 st34 hQ34
    subst l34 y34 z34
    obtain ⟨rfl, N34q, Kc34, Ex34, Fc34, t34, kb34, g_t34, gs_t34, nx34, Fv34, Av34⟩ := hQ34
    have N34 := Fr.app N30 N34q
    have O34 := O31.keep Kc34 (allS g_b31 all0)
    have K34 := K31.trans Kc34 (allS (Or.inr s_b31) all0)
    have s_t34 := Nat.le_trans K31.1 gs_t34
    have lt_t34 := Av34.lt
    obtain ⟨_, _, ⟨T35, L35, k35, n35⟩, -, X35, ⟨Lc35, hQ35, l35, y35, z35⟩, st35⟩ := Jvm.LawKit.callS X34 hx (y := own_m4) hown (mvT hZ (own_w hw 38 rfl)) (mvT hZ (own_w hw 39 rfl)) (mvT hZ (own_w hw 11 rfl)) (mvT hZ (own_w hw 40 rfl)) (by decide) (backOf (W := 0) (rm_vo l Z a0 hw [] ((p3 &&& (255 : Int32)).toUInt32.toUInt16.toUInt32.toInt32) _ _ _ _ _ _ _ _ _ _ _ T34.heap n0 O34 hE  (own_and255 _).2) hZ (own_w hw 40 rfl) (own_w hw 11 rfl) (by decide) (by decide)) (g := (mkF m 58 #[.val (.int p0), .val (.int p1), .val (.int p2), .val (.int p3), .val (.int p4), .val (.int ((p0 &&& (2147483647 : Int32)) % (9 : Int32))), .val (.ref ad23), .val (.ref b24), .val (.ref b31), .unset, .unset, .unset, .unset] [(.int ((p3 &&& (255 : Int32)).toUInt32.toUInt16.toUInt32.toInt32))])) rfl (by rw [hml]; rfl) (argsL := [(.int ((p3 &&& (255 : Int32)).toUInt32.toUInt16.toUInt32.toInt32))]) (rest := []) (lenOf pd__C_Ljava_lang_String_ rfl) rfl (by show 2 * 0 + _ ≤ _; exact Nat.le_of_eq rfl) (hb hby at_58) (fun _ _ => ⟨rfl, rfl, (by decide : 3 + 2 ≤ _), (by decide : 8 + 5 ≤ _)⟩)
    dsimp only [Pt.U, Pt.locs, Pt.cells, Pt.slots] at X35 l35 y35 z35 st35 hQ35
    subst l35 y35 z35
    obtain ⟨b35, t35, k35, rfl, N35q, O35, Kc35, g_b35, gs_b35, g_t35, gs_t35, ne_b_t35, F35_0, F35_1, F35_2, F35_3⟩ := hQ35
    have N35 := Fr.app N34 N35q
    have K35 := K34.trans Kc35 (fun x hx => nomatch hx)
    have s_b35 := Nat.le_trans K34.1 gs_b35
    have s_t35 := Nat.le_trans K34.1 gs_t35
    have lt_b35 := F35_0.lt
    have lt_t35 := F35_3.lt
    obtain ⟨T36, h36, X36, e36, E36, A36, D36, -, st36⟩ := newO X35 hx hZ hown (own_w hw 52 rfl) (own_w hw 53 rfl) (own_w hw 54 rfl) rfl (g := (mkF m 63 #[.val (.int p0), .val (.int p1), .val (.int p2), .val (.int p3), .val (.int p4), .val (.int ((p0 &&& (2147483647 : Int32)) % (9 : Int32))), .val (.ref ad23), .val (.ref b24), .val (.ref b31), .val (.ref b35), .unset, .unset, .unset] [])) rfl (hb hby at_63) (by decide) (by decide)
    obtain ⟨b36, g36⟩ : ∃ z, z = T35.heap.size := ⟨_, rfl⟩
    rw [← g36] at A36 D36 st36
    have O36 := O35.ext E36
    have g_b36 : n0 ≤ b36 := Nat.le_trans (Nat.le_of_eq O35.1.symm) (Nat.le_trans O35.2.1 (Nat.le_of_eq g36.symm))
    have s_b36 : h0.size ≤ b36 := Nat.le_trans K35.1 (Nat.le_of_eq g36.symm)
    have K36 := K35.ext E36
    have lt_b36 := A36.lt
    have F36_kind : Fld Z h36 b36 "com/example/gate3/gate3/io/Token" "kind" "Lcom/example/gate3/gate3/io/Token$Kind;" .null := D36 (Or.inr (own_w hw 65 rfl)) (ty := (.object "com/example/gate3/gate3/io/Token$Kind")) (by decide)
    have F36_text : Fld Z h36 b36 "com/example/gate3/gate3/io/Token" "text" "Ljava/lang/String;" .null := D36 (Or.inr (own_w hw 67 rfl)) (ty := (.object "java/lang/String")) (by decide)
    have F36_source : Fld Z h36 b36 "com/example/gate3/gate3/io/Token" "source" "Ljava/lang/String;" .null := D36 (Or.inr (own_w hw 69 rfl)) (ty := (.object "java/lang/String")) (by decide)
    have F36_line : Fld Z h36 b36 "com/example/gate3/gate3/io/Token" "line" "I" (.int (0 : Int32)) := D36 (Or.inr (own_w hw 71 rfl)) (ty := .int) (by decide)
    obtain ⟨_, _, ⟨T37, L37, k37, n37⟩, -, X37, ⟨Lc37, hQ37, l37, y37, z37⟩, st37⟩ := X36.specialBack hx (y := own_m6) rfl hown (mvT hZ (own_w hw 55 rfl)) (mvT hZ (own_w hw 56 rfl)) (mvT hZ (own_w hw 57 rfl)) (by decide) (backOf (W := 1) (rm_ti l Z a0 hw [] b36 ad23 b31 b35 p4 _ _ _ _ _ _ _ _ _ _ _ h36 n0 O36 hE F36_kind F36_text F36_source F36_line A36 g_b36 ) hZ (own_w hw 57 rfl) (own_w hw 54 rfl) (by decide) (by decide)) (g := (mkF m 75 #[.val (.int p0), .val (.int p1), .val (.int p2), .val (.int p3), .val (.int p4), .val (.int ((p0 &&& (2147483647 : Int32)) % (9 : Int32))), .val (.ref ad23), .val (.ref b24), .val (.ref b31), .val (.ref b35), .unset, .unset, .unset] [(.int p4), (.ref b35), (.ref b31), (.ref ad23), (.ref b36), (.ref b36)])) rfl (by rw [hml]; rfl) (Steps.refl _) (a := b36) (argsL := [(.ref ad23), (.ref b31), (.ref b35), (.int p4)]) (rest := [(.ref b36)]) (lenOf pd__Lcom_example_gate3_gate3_io_Token_Kind_Ljava_lang_String_Ljava_lang_String_I_V rfl) rfl (by show 2 * 0 + _ ≤ _; exact Nat.le_of_eq rfl) (hb hby at_75) (fun _ _ => ⟨rfl, e36, (by decide : 6 + 0 ≤ _), (by decide : 17 + 0 ≤ _)⟩)
    dsimp only [Pt.U, Pt.locs, Pt.cells, Pt.slots] at X37 l37 y37 z37 st37 hQ37
    subst l37 y37 z37
    obtain ⟨rfl, N37q, O37, Kc37, Ex37, G37_0, G37_1, G37_2, G37_3⟩ := hQ37
    have N37 := Fr.app N35 N37q
    have K37 := K36.trans Kc37 (allS (Or.inr s_b36) all0)
    obtain ⟨cq38, kq38, q38a, q38b, q38c⟩ := isOf hZ rfl Ex37
    obtain ⟨_, _, ⟨T38, L38, k38, n38⟩, -, X38, ⟨Lc38, hQ38, l38, y38, z38⟩, st38⟩ := X37.virtualBack hx (y := own_m7) (z := own_m7) hown (mvT hZ (own_w hw 72 rfl)) (mvT hZ (own_w hw 73 rfl)) (notFace_of_selects (args := #[]) (mvT hZ (own_w hw 75 rfl))) (mvT hZ (own_w hw 75 rfl)) (mvT hZ (own_w hw 74 rfl)) (by decide) (backOf (W := 0) (rm_isi_f l Z a0 hw [] b36 ad23 _ _ _ _ _ _ _ _ _ _ _ T37.heap n0 O37 hE G37_0 ne23) hZ (own_w hw 76 rfl) (own_w hw 54 rfl) (by decide) (by decide)) q38a q38c (g := (mkF m 82 #[.val (.int p0), .val (.int p1), .val (.int p2), .val (.int p3), .val (.int p4), .val (.int ((p0 &&& (2147483647 : Int32)) % (9 : Int32))), .val (.ref ad23), .val (.ref b24), .val (.ref b31), .val (.ref b35), .val (.ref b36), .unset, .unset] [(.ref b36)])) rfl (by rw [hml]; rfl) (Steps.refl _) (argsL := []) (rest := []) (lenOf pd___Z rfl) rfl (by show 2 * 0 + _ ≤ _; exact Nat.le_of_eq rfl) (hb hby at_82) (fun _ _ => ⟨rfl, rfl, (by decide : 6 + 0 ≤ _), (by decide : 17 + 0 ≤ _)⟩)
    dsimp only [Pt.U, Pt.locs, Pt.cells, Pt.slots] at X38 l38 y38 z38 st38 hQ38
    subst l38 y38 z38
    obtain ⟨rfl, N38q, hp38⟩ := hQ38
    have N38 := Fr.app N37 N38q
    have k39 : ∀ t, own_At p e below m T38 126 #[.val (.int p0), .val (.int p1), .val (.int p2), .val (.int p3), .val (.int p4), .val (.int ((p0 &&& (2147483647 : Int32)) % (9 : Int32))), .val (.ref ad23), .val (.ref b24), .val (.ref b31), .val (.ref b35), .val (.ref b36), .val (.int (0 : Int32)), .val (.int (0 : Int32))] [(.int (1 : Int32))] t → own_En p e below m s₁ #[(.int p0), (.int p1), (.int p2), (.int p3), (.int p4)] maxLocals t := by
      intro t k
      refine k1 t ?_
      refine XS.istore X0.here hx rfl (hb hby at_7) rfl (l' := #[.val (.int p0), .val (.int p1), .val (.int p2), .val (.int p3), .val (.int p4), .val (.int ((p0 &&& (2147483647 : Int32)) % (9 : Int32))), .unset, .unset, .unset, .unset, .unset, .unset, .unset]) rfl ?_
      show own_At p e below m s₁ 9 #[.val (.int p0), .val (.int p1), .val (.int p2), .val (.int p3), .val (.int p4), .val (.int ((p0 &&& (2147483647 : Int32)) % (9 : Int32))), .unset, .unset, .unset, .unset, .unset, .unset, .unset] [] t
      refine XS.iload X0.here hx rfl (hb hby at_9) rfl ?_
      show own_At p e below m s₁ 11 #[.val (.int p0), .val (.int p1), .val (.int p2), .val (.int p3), .val (.int p4), .val (.int ((p0 &&& (2147483647 : Int32)) % (9 : Int32))), .unset, .unset, .unset, .unset, .unset, .unset, .unset] [(.int ((p0 &&& (2147483647 : Int32)) % (9 : Int32)))] t
      refine st23 _ ?_
      show own_At p e below m T23 14 #[.val (.int p0), .val (.int p1), .val (.int p2), .val (.int p3), .val (.int p4), .val (.int ((p0 &&& (2147483647 : Int32)) % (9 : Int32))), .unset, .unset, .unset, .unset, .unset, .unset, .unset] [(.ref ad23)] t
      refine XS.astore X23.here hx rfl (hb hby at_14) rfl rfl (l' := #[.val (.int p0), .val (.int p1), .val (.int p2), .val (.int p3), .val (.int p4), .val (.int ((p0 &&& (2147483647 : Int32)) % (9 : Int32))), .val (.ref ad23), .unset, .unset, .unset, .unset, .unset, .unset]) rfl ?_
      show own_At p e below m T23 16 #[.val (.int p0), .val (.int p1), .val (.int p2), .val (.int p3), .val (.int p4), .val (.int ((p0 &&& (2147483647 : Int32)) % (9 : Int32))), .val (.ref ad23), .unset, .unset, .unset, .unset, .unset, .unset] [] t
      refine XS.iconst X23.here hx rfl (hb hby at_16) ?_
      show own_At p e below m T23 17 #[.val (.int p0), .val (.int p1), .val (.int p2), .val (.int p3), .val (.int p4), .val (.int ((p0 &&& (2147483647 : Int32)) % (9 : Int32))), .val (.ref ad23), .unset, .unset, .unset, .unset, .unset, .unset] [(.int (2 : Int32))] t
      refine st24 _ ?_
      show own_At p e below m T24 19 #[.val (.int p0), .val (.int p1), .val (.int p2), .val (.int p3), .val (.int p4), .val (.int ((p0 &&& (2147483647 : Int32)) % (9 : Int32))), .val (.ref ad23), .unset, .unset, .unset, .unset, .unset, .unset] [(.ref b24)] t
      refine XS.astore X24.here hx rfl (hb hby at_19) rfl rfl (l' := #[.val (.int p0), .val (.int p1), .val (.int p2), .val (.int p3), .val (.int p4), .val (.int ((p0 &&& (2147483647 : Int32)) % (9 : Int32))), .val (.ref ad23), .val (.ref b24), .unset, .unset, .unset, .unset, .unset]) rfl ?_
      show own_At p e below m T24 21 #[.val (.int p0), .val (.int p1), .val (.int p2), .val (.int p3), .val (.int p4), .val (.int ((p0 &&& (2147483647 : Int32)) % (9 : Int32))), .val (.ref ad23), .val (.ref b24), .unset, .unset, .unset, .unset, .unset] [] t
      refine XS.aload X24.here hx rfl (hb hby at_21) rfl rfl ?_
      show own_At p e below m T24 23 #[.val (.int p0), .val (.int p1), .val (.int p2), .val (.int p3), .val (.int p4), .val (.int ((p0 &&& (2147483647 : Int32)) % (9 : Int32))), .val (.ref ad23), .val (.ref b24), .unset, .unset, .unset, .unset, .unset] [(.ref b24)] t
      refine XS.iconst X24.here hx rfl (hb hby at_23) ?_
      show own_At p e below m T24 24 #[.val (.int p0), .val (.int p1), .val (.int p2), .val (.int p3), .val (.int p4), .val (.int ((p0 &&& (2147483647 : Int32)) % (9 : Int32))), .val (.ref ad23), .val (.ref b24), .unset, .unset, .unset, .unset, .unset] [(.int (0 : Int32)), (.ref b24)] t
      refine XS.iloadN X24.here hx rfl (hb hby at_24) rfl ?_
      show own_At p e below m T24 25 #[.val (.int p0), .val (.int p1), .val (.int p2), .val (.int p3), .val (.int p4), .val (.int ((p0 &&& (2147483647 : Int32)) % (9 : Int32))), .val (.ref ad23), .val (.ref b24), .unset, .unset, .unset, .unset, .unset] [(.int p1), (.int (0 : Int32)), (.ref b24)] t
      refine XS.sipush X24.here hx rfl (hb hby at_25) ?_
      show own_At p e below m T24 28 #[.val (.int p0), .val (.int p1), .val (.int p2), .val (.int p3), .val (.int p4), .val (.int ((p0 &&& (2147483647 : Int32)) % (9 : Int32))), .val (.ref ad23), .val (.ref b24), .unset, .unset, .unset, .unset, .unset] [(.int (255 : Int32)), (.int p1), (.int (0 : Int32)), (.ref b24)] t
      refine XS.iand X24.here hx rfl (hb hby at_28) rfl ?_
      show own_At p e below m T24 29 #[.val (.int p0), .val (.int p1), .val (.int p2), .val (.int p3), .val (.int p4), .val (.int ((p0 &&& (2147483647 : Int32)) % (9 : Int32))), .val (.ref ad23), .val (.ref b24), .unset, .unset, .unset, .unset, .unset] [(.int (p1 &&& (255 : Int32))), (.int (0 : Int32)), (.ref b24)] t
      refine XS.i2c X24.here hx rfl (hb hby at_29) rfl ?_
      show own_At p e below m T24 30 #[.val (.int p0), .val (.int p1), .val (.int p2), .val (.int p3), .val (.int p4), .val (.int ((p0 &&& (2147483647 : Int32)) % (9 : Int32))), .val (.ref ad23), .val (.ref b24), .unset, .unset, .unset, .unset, .unset] [(.int ((p1 &&& (255 : Int32)).toUInt32.toUInt16.toUInt32.toInt32)), (.int (0 : Int32)), (.ref b24)] t
      refine st27 _ ?_
      show own_At p e below m T27 31 #[.val (.int p0), .val (.int p1), .val (.int p2), .val (.int p3), .val (.int p4), .val (.int ((p0 &&& (2147483647 : Int32)) % (9 : Int32))), .val (.ref ad23), .val (.ref b24), .unset, .unset, .unset, .unset, .unset] [] t
      refine XS.aload X27.here hx rfl (hb hby at_31) rfl rfl ?_
      show own_At p e below m T27 33 #[.val (.int p0), .val (.int p1), .val (.int p2), .val (.int p3), .val (.int p4), .val (.int ((p0 &&& (2147483647 : Int32)) % (9 : Int32))), .val (.ref ad23), .val (.ref b24), .unset, .unset, .unset, .unset, .unset] [(.ref b24)] t
      refine XS.iconst X27.here hx rfl (hb hby at_33) ?_
      show own_At p e below m T27 34 #[.val (.int p0), .val (.int p1), .val (.int p2), .val (.int p3), .val (.int p4), .val (.int ((p0 &&& (2147483647 : Int32)) % (9 : Int32))), .val (.ref ad23), .val (.ref b24), .unset, .unset, .unset, .unset, .unset] [(.int (1 : Int32)), (.ref b24)] t
      refine XS.iloadN X27.here hx rfl (hb hby at_34) rfl ?_
      show own_At p e below m T27 35 #[.val (.int p0), .val (.int p1), .val (.int p2), .val (.int p3), .val (.int p4), .val (.int ((p0 &&& (2147483647 : Int32)) % (9 : Int32))), .val (.ref ad23), .val (.ref b24), .unset, .unset, .unset, .unset, .unset] [(.int p2), (.int (1 : Int32)), (.ref b24)] t
      refine XS.sipush X27.here hx rfl (hb hby at_35) ?_
      show own_At p e below m T27 38 #[.val (.int p0), .val (.int p1), .val (.int p2), .val (.int p3), .val (.int p4), .val (.int ((p0 &&& (2147483647 : Int32)) % (9 : Int32))), .val (.ref ad23), .val (.ref b24), .unset, .unset, .unset, .unset, .unset] [(.int (255 : Int32)), (.int p2), (.int (1 : Int32)), (.ref b24)] t
      refine XS.iand X27.here hx rfl (hb hby at_38) rfl ?_
      show own_At p e below m T27 39 #[.val (.int p0), .val (.int p1), .val (.int p2), .val (.int p3), .val (.int p4), .val (.int ((p0 &&& (2147483647 : Int32)) % (9 : Int32))), .val (.ref ad23), .val (.ref b24), .unset, .unset, .unset, .unset, .unset] [(.int (p2 &&& (255 : Int32))), (.int (1 : Int32)), (.ref b24)] t
      refine XS.i2c X27.here hx rfl (hb hby at_39) rfl ?_
      show own_At p e below m T27 40 #[.val (.int p0), .val (.int p1), .val (.int p2), .val (.int p3), .val (.int p4), .val (.int ((p0 &&& (2147483647 : Int32)) % (9 : Int32))), .val (.ref ad23), .val (.ref b24), .unset, .unset, .unset, .unset, .unset] [(.int ((p2 &&& (255 : Int32)).toUInt32.toUInt16.toUInt32.toInt32)), (.int (1 : Int32)), (.ref b24)] t
      refine st30 _ ?_
      show own_At p e below m T30 41 #[.val (.int p0), .val (.int p1), .val (.int p2), .val (.int p3), .val (.int p4), .val (.int ((p0 &&& (2147483647 : Int32)) % (9 : Int32))), .val (.ref ad23), .val (.ref b24), .unset, .unset, .unset, .unset, .unset] [] t
      refine st31 _ ?_
      show own_At p e below m T31 44 #[.val (.int p0), .val (.int p1), .val (.int p2), .val (.int p3), .val (.int p4), .val (.int ((p0 &&& (2147483647 : Int32)) % (9 : Int32))), .val (.ref ad23), .val (.ref b24), .unset, .unset, .unset, .unset, .unset] [(.ref b31)] t
      refine XS.dup X31.here hx rfl (hb hby at_44) rfl rfl ?_
      show own_At p e below m T31 45 #[.val (.int p0), .val (.int p1), .val (.int p2), .val (.int p3), .val (.int p4), .val (.int ((p0 &&& (2147483647 : Int32)) % (9 : Int32))), .val (.ref ad23), .val (.ref b24), .unset, .unset, .unset, .unset, .unset] [(.ref b31), (.ref b31)] t
      refine XS.aload X31.here hx rfl (hb hby at_45) rfl rfl ?_
      show own_At p e below m T31 47 #[.val (.int p0), .val (.int p1), .val (.int p2), .val (.int p3), .val (.int p4), .val (.int ((p0 &&& (2147483647 : Int32)) % (9 : Int32))), .val (.ref ad23), .val (.ref b24), .unset, .unset, .unset, .unset, .unset] [(.ref b24), (.ref b31), (.ref b31)] t
      refine st34.trans ?_
      show own_At p e below m T34 50 #[.val (.int p0), .val (.int p1), .val (.int p2), .val (.int p3), .val (.int p4), .val (.int ((p0 &&& (2147483647 : Int32)) % (9 : Int32))), .val (.ref ad23), .val (.ref b24), .unset, .unset, .unset, .unset, .unset] [(.ref b31)] t
      refine XS.astore X34.here hx rfl (hb hby at_50) rfl rfl (l' := #[.val (.int p0), .val (.int p1), .val (.int p2), .val (.int p3), .val (.int p4), .val (.int ((p0 &&& (2147483647 : Int32)) % (9 : Int32))), .val (.ref ad23), .val (.ref b24), .val (.ref b31), .unset, .unset, .unset, .unset]) rfl ?_
      show own_At p e below m T34 52 #[.val (.int p0), .val (.int p1), .val (.int p2), .val (.int p3), .val (.int p4), .val (.int ((p0 &&& (2147483647 : Int32)) % (9 : Int32))), .val (.ref ad23), .val (.ref b24), .val (.ref b31), .unset, .unset, .unset, .unset] [] t
      refine XS.iloadN X34.here hx rfl (hb hby at_52) rfl ?_
      show own_At p e below m T34 53 #[.val (.int p0), .val (.int p1), .val (.int p2), .val (.int p3), .val (.int p4), .val (.int ((p0 &&& (2147483647 : Int32)) % (9 : Int32))), .val (.ref ad23), .val (.ref b24), .val (.ref b31), .unset, .unset, .unset, .unset] [(.int p3)] t
      refine XS.sipush X34.here hx rfl (hb hby at_53) ?_
      show own_At p e below m T34 56 #[.val (.int p0), .val (.int p1), .val (.int p2), .val (.int p3), .val (.int p4), .val (.int ((p0 &&& (2147483647 : Int32)) % (9 : Int32))), .val (.ref ad23), .val (.ref b24), .val (.ref b31), .unset, .unset, .unset, .unset] [(.int (255 : Int32)), (.int p3)] t
      refine XS.iand X34.here hx rfl (hb hby at_56) rfl ?_
      show own_At p e below m T34 57 #[.val (.int p0), .val (.int p1), .val (.int p2), .val (.int p3), .val (.int p4), .val (.int ((p0 &&& (2147483647 : Int32)) % (9 : Int32))), .val (.ref ad23), .val (.ref b24), .val (.ref b31), .unset, .unset, .unset, .unset] [(.int (p3 &&& (255 : Int32)))] t
      refine XS.i2c X34.here hx rfl (hb hby at_57) rfl ?_
      show own_At p e below m T34 58 #[.val (.int p0), .val (.int p1), .val (.int p2), .val (.int p3), .val (.int p4), .val (.int ((p0 &&& (2147483647 : Int32)) % (9 : Int32))), .val (.ref ad23), .val (.ref b24), .val (.ref b31), .unset, .unset, .unset, .unset] [(.int ((p3 &&& (255 : Int32)).toUInt32.toUInt16.toUInt32.toInt32))] t
      refine st35 _ ?_
      show own_At p e below m T35 61 #[.val (.int p0), .val (.int p1), .val (.int p2), .val (.int p3), .val (.int p4), .val (.int ((p0 &&& (2147483647 : Int32)) % (9 : Int32))), .val (.ref ad23), .val (.ref b24), .val (.ref b31), .unset, .unset, .unset, .unset] [(.ref b35)] t
      refine XS.astore X35.here hx rfl (hb hby at_61) rfl rfl (l' := #[.val (.int p0), .val (.int p1), .val (.int p2), .val (.int p3), .val (.int p4), .val (.int ((p0 &&& (2147483647 : Int32)) % (9 : Int32))), .val (.ref ad23), .val (.ref b24), .val (.ref b31), .val (.ref b35), .unset, .unset, .unset]) rfl ?_
      show own_At p e below m T35 63 #[.val (.int p0), .val (.int p1), .val (.int p2), .val (.int p3), .val (.int p4), .val (.int ((p0 &&& (2147483647 : Int32)) % (9 : Int32))), .val (.ref ad23), .val (.ref b24), .val (.ref b31), .val (.ref b35), .unset, .unset, .unset] [] t
      refine st36 _ ?_
      show own_At p e below m T36 66 #[.val (.int p0), .val (.int p1), .val (.int p2), .val (.int p3), .val (.int p4), .val (.int ((p0 &&& (2147483647 : Int32)) % (9 : Int32))), .val (.ref ad23), .val (.ref b24), .val (.ref b31), .val (.ref b35), .unset, .unset, .unset] [(.ref b36)] t
      refine XS.dup X36.here hx rfl (hb hby at_66) rfl rfl ?_
      show own_At p e below m T36 67 #[.val (.int p0), .val (.int p1), .val (.int p2), .val (.int p3), .val (.int p4), .val (.int ((p0 &&& (2147483647 : Int32)) % (9 : Int32))), .val (.ref ad23), .val (.ref b24), .val (.ref b31), .val (.ref b35), .unset, .unset, .unset] [(.ref b36), (.ref b36)] t
      refine XS.aload X36.here hx rfl (hb hby at_67) rfl rfl ?_
      show own_At p e below m T36 69 #[.val (.int p0), .val (.int p1), .val (.int p2), .val (.int p3), .val (.int p4), .val (.int ((p0 &&& (2147483647 : Int32)) % (9 : Int32))), .val (.ref ad23), .val (.ref b24), .val (.ref b31), .val (.ref b35), .unset, .unset, .unset] [(.ref ad23), (.ref b36), (.ref b36)] t
      refine XS.aload X36.here hx rfl (hb hby at_69) rfl rfl ?_
      show own_At p e below m T36 71 #[.val (.int p0), .val (.int p1), .val (.int p2), .val (.int p3), .val (.int p4), .val (.int ((p0 &&& (2147483647 : Int32)) % (9 : Int32))), .val (.ref ad23), .val (.ref b24), .val (.ref b31), .val (.ref b35), .unset, .unset, .unset] [(.ref b31), (.ref ad23), (.ref b36), (.ref b36)] t
      refine XS.aload X36.here hx rfl (hb hby at_71) rfl rfl ?_
      show own_At p e below m T36 73 #[.val (.int p0), .val (.int p1), .val (.int p2), .val (.int p3), .val (.int p4), .val (.int ((p0 &&& (2147483647 : Int32)) % (9 : Int32))), .val (.ref ad23), .val (.ref b24), .val (.ref b31), .val (.ref b35), .unset, .unset, .unset] [(.ref b35), (.ref b31), (.ref ad23), (.ref b36), (.ref b36)] t
      refine XS.iload X36.here hx rfl (hb hby at_73) rfl ?_
      show own_At p e below m T36 75 #[.val (.int p0), .val (.int p1), .val (.int p2), .val (.int p3), .val (.int p4), .val (.int ((p0 &&& (2147483647 : Int32)) % (9 : Int32))), .val (.ref ad23), .val (.ref b24), .val (.ref b31), .val (.ref b35), .unset, .unset, .unset] [(.int p4), (.ref b35), (.ref b31), (.ref ad23), (.ref b36), (.ref b36)] t
      refine st37.trans ?_
      show own_At p e below m T37 78 #[.val (.int p0), .val (.int p1), .val (.int p2), .val (.int p3), .val (.int p4), .val (.int ((p0 &&& (2147483647 : Int32)) % (9 : Int32))), .val (.ref ad23), .val (.ref b24), .val (.ref b31), .val (.ref b35), .unset, .unset, .unset] [(.ref b36)] t
      refine XS.astore X37.here hx rfl (hb hby at_78) rfl rfl (l' := #[.val (.int p0), .val (.int p1), .val (.int p2), .val (.int p3), .val (.int p4), .val (.int ((p0 &&& (2147483647 : Int32)) % (9 : Int32))), .val (.ref ad23), .val (.ref b24), .val (.ref b31), .val (.ref b35), .val (.ref b36), .unset, .unset]) rfl ?_
      show own_At p e below m T37 80 #[.val (.int p0), .val (.int p1), .val (.int p2), .val (.int p3), .val (.int p4), .val (.int ((p0 &&& (2147483647 : Int32)) % (9 : Int32))), .val (.ref ad23), .val (.ref b24), .val (.ref b31), .val (.ref b35), .val (.ref b36), .unset, .unset] [] t
      refine XS.aload X37.here hx rfl (hb hby at_80) rfl rfl ?_
      show own_At p e below m T37 82 #[.val (.int p0), .val (.int p1), .val (.int p2), .val (.int p3), .val (.int p4), .val (.int ((p0 &&& (2147483647 : Int32)) % (9 : Int32))), .val (.ref ad23), .val (.ref b24), .val (.ref b31), .val (.ref b35), .val (.ref b36), .unset, .unset] [(.ref b36)] t
      refine st38.trans ?_
      show own_At p e below m T38 85 #[.val (.int p0), .val (.int p1), .val (.int p2), .val (.int p3), .val (.int p4), .val (.int ((p0 &&& (2147483647 : Int32)) % (9 : Int32))), .val (.ref ad23), .val (.ref b24), .val (.ref b31), .val (.ref b35), .val (.ref b36), .unset, .unset] [(.int (0 : Int32))] t
      refine XS.istore X38.here hx rfl (hb hby at_85) rfl (l' := #[.val (.int p0), .val (.int p1), .val (.int p2), .val (.int p3), .val (.int p4), .val (.int ((p0 &&& (2147483647 : Int32)) % (9 : Int32))), .val (.ref ad23), .val (.ref b24), .val (.ref b31), .val (.ref b35), .val (.ref b36), .val (.int (0 : Int32)), .unset]) rfl ?_
      show own_At p e below m T38 87 #[.val (.int p0), .val (.int p1), .val (.int p2), .val (.int p3), .val (.int p4), .val (.int ((p0 &&& (2147483647 : Int32)) % (9 : Int32))), .val (.ref ad23), .val (.ref b24), .val (.ref b31), .val (.ref b35), .val (.ref b36), .val (.int (0 : Int32)), .unset] [] t
      refine XS.iload X38.here hx rfl (hb hby at_87) rfl ?_
      show own_At p e below m T38 89 #[.val (.int p0), .val (.int p1), .val (.int p2), .val (.int p3), .val (.int p4), .val (.int ((p0 &&& (2147483647 : Int32)) % (9 : Int32))), .val (.ref ad23), .val (.ref b24), .val (.ref b31), .val (.ref b35), .val (.ref b36), .val (.int (0 : Int32)), .unset] [(.int ((p0 &&& (2147483647 : Int32)) % (9 : Int32)))] t
      refine XS.ifYes X38.here hx rfl (pc0 := 89) (pc' := 96) rfl (hb hby at_89) rfl ((if0 _ _).trans (feq hc2).2) (by decide) (by decide) ?_
      show own_At p e below m T38 96 #[.val (.int p0), .val (.int p1), .val (.int p2), .val (.int p3), .val (.int p4), .val (.int ((p0 &&& (2147483647 : Int32)) % (9 : Int32))), .val (.ref ad23), .val (.ref b24), .val (.ref b31), .val (.ref b35), .val (.ref b36), .val (.int (0 : Int32)), .unset] [] t
      refine XS.iconst X38.here hx rfl (hb hby at_96) ?_
      show own_At p e below m T38 97 #[.val (.int p0), .val (.int p1), .val (.int p2), .val (.int p3), .val (.int p4), .val (.int ((p0 &&& (2147483647 : Int32)) % (9 : Int32))), .val (.ref ad23), .val (.ref b24), .val (.ref b31), .val (.ref b35), .val (.ref b36), .val (.int (0 : Int32)), .unset] [(.int (0 : Int32))] t
      refine XS.istore X38.here hx rfl (hb hby at_97) rfl (l' := #[.val (.int p0), .val (.int p1), .val (.int p2), .val (.int p3), .val (.int p4), .val (.int ((p0 &&& (2147483647 : Int32)) % (9 : Int32))), .val (.ref ad23), .val (.ref b24), .val (.ref b31), .val (.ref b35), .val (.ref b36), .val (.int (0 : Int32)), .val (.int (0 : Int32))]) rfl ?_
      show own_At p e below m T38 99 #[.val (.int p0), .val (.int p1), .val (.int p2), .val (.int p3), .val (.int p4), .val (.int ((p0 &&& (2147483647 : Int32)) % (9 : Int32))), .val (.ref ad23), .val (.ref b24), .val (.ref b31), .val (.ref b35), .val (.ref b36), .val (.int (0 : Int32)), .val (.int (0 : Int32))] [] t
      refine XS.iload X38.here hx rfl (hb hby at_99) rfl ?_
      show own_At p e below m T38 101 #[.val (.int p0), .val (.int p1), .val (.int p2), .val (.int p3), .val (.int p4), .val (.int ((p0 &&& (2147483647 : Int32)) % (9 : Int32))), .val (.ref ad23), .val (.ref b24), .val (.ref b31), .val (.ref b35), .val (.ref b36), .val (.int (0 : Int32)), .val (.int (0 : Int32))] [(.int (0 : Int32))] t
      refine XS.iload X38.here hx rfl (hb hby at_101) rfl ?_
      show own_At p e below m T38 103 #[.val (.int p0), .val (.int p1), .val (.int p2), .val (.int p3), .val (.int p4), .val (.int ((p0 &&& (2147483647 : Int32)) % (9 : Int32))), .val (.ref ad23), .val (.ref b24), .val (.ref b31), .val (.ref b35), .val (.ref b36), .val (.int (0 : Int32)), .val (.int (0 : Int32))] [(.int (0 : Int32)), (.int (0 : Int32))] t
      refine XS.icmpYes X38.here hx rfl (pc0 := 103) (pc' := 108) rfl (hb hby at_103) rfl (teq (by decide : (0 : Int32) = (0 : Int32))).1 (by decide) (by decide) ?_
      show own_At p e below m T38 108 #[.val (.int p0), .val (.int p1), .val (.int p2), .val (.int p3), .val (.int p4), .val (.int ((p0 &&& (2147483647 : Int32)) % (9 : Int32))), .val (.ref ad23), .val (.ref b24), .val (.ref b31), .val (.ref b35), .val (.ref b36), .val (.int (0 : Int32)), .val (.int (0 : Int32))] [] t
      refine XS.iload X38.here hx rfl (hb hby at_108) rfl ?_
      show own_At p e below m T38 110 #[.val (.int p0), .val (.int p1), .val (.int p2), .val (.int p3), .val (.int p4), .val (.int ((p0 &&& (2147483647 : Int32)) % (9 : Int32))), .val (.ref ad23), .val (.ref b24), .val (.ref b31), .val (.ref b35), .val (.ref b36), .val (.int (0 : Int32)), .val (.int (0 : Int32))] [(.int (0 : Int32))] t
      refine XS.ifYes X38.here hx rfl (pc0 := 110) (pc' := 125) rfl (hb hby at_110) rfl ((if0 _ _).trans (teq (by decide : (0 : Int32) = (0 : Int32))).1) (by decide) (by decide) ?_
      show own_At p e below m T38 125 #[.val (.int p0), .val (.int p1), .val (.int p2), .val (.int p3), .val (.int p4), .val (.int ((p0 &&& (2147483647 : Int32)) % (9 : Int32))), .val (.ref ad23), .val (.ref b24), .val (.ref b31), .val (.ref b35), .val (.ref b36), .val (.int (0 : Int32)), .val (.int (0 : Int32))] [] t
      refine XS.iconst X38.here hx rfl (hb hby at_125) ?_
      show own_At p e below m T38 126 #[.val (.int p0), .val (.int p1), .val (.int p2), .val (.int p3), .val (.int p4), .val (.int ((p0 &&& (2147483647 : Int32)) % (9 : Int32))), .val (.ref ad23), .val (.ref b24), .val (.ref b31), .val (.ref b35), .val (.ref b36), .val (.int (0 : Int32)), .val (.int (0 : Int32))] [(.int (1 : Int32))] t
      exact k
    obtain ⟨fs, hr, hrun, hended, hW, hsame⟩ := X38.leave (v := some (.int (1 : Int32))) (fun h => by rw [Bd.returns] at h; cases h)
    refine hNG ⟨_, _, k39 _ ?_, hrun, hended, _, _, rfl, ?_, ⟨_, rfl⟩, hW, hsame.mono (by decide) (by decide)⟩
    · exact retN X38 hx (t := .boolean) Bd.returns (by simp) (hb hby at_126) hr
    · show Q_law Z p0 p1 p2 p3 p4 a_IDENTIFIER a_SYMBOL a_DIRECTIVE a_END a_FILE_START a_FILE_END a_NUMBER a_LITERAL a_PRAGMA_PREFIX z_COMPACT_STRINGS r_SIOOBE_FORMATTER h0 n0 _ T38.heap _
      rw [hp38]
      exact ⟨rfl, N38⟩
set_option maxRecDepth 65536 in
set_option maxHeartbeats 40000000 in
theorem comes_1 {Post : Tables → Env → Array Value → State → Outcome → State → Prop} (hpost : ∀ tb e args s v u, (limb_1_1.after args s (.returned v) u = true ∧ limb_1_2.after args s (.returned v) u = true ∧ True) → FrameEnd s (.returned v) u (Jvm.fieldLocs frame_1_writes args s ++ Jvm.arrayLocs frame_1_arrays args s ++ Jvm.staticLocs frame_1_statics s) 24 128 → Post tb e args s (.returned v) u) :
    ArmFor flags0 classFile x code maxLocals ret World_1 tables_1 room_1 Calls_1 rest_1 Pre_1 Post := by
  intro l hfl _ _ p e ha hc hk s m args below hf hA hF happ hP
  obtain ⟨hcalls, hrest, hpre⟩ := hP
  obtain ⟨-, -, -, hnamed, -, -, -, hat⟩ := (Spec.applies_iff hf).mp happ
  obtain ⟨hg, hn⟩ := and_e (Cond.before_iff.mp (show (Jvm.Cond.and given_1 narrow_1).before args s = true from hpre))
  obtain ⟨g0a, g0b⟩ := and_e hg
  obtain ⟨g1a, g1b⟩ := and_e g0b
  obtain ⟨g2a, g2b⟩ := and_e g1b
  obtain ⟨g3a, g3b⟩ := and_e g2b
  obtain ⟨g4a, g4b⟩ := and_e g3b
  obtain ⟨w0, w1, w2, w3, w4, rfl⟩ : ∃ w0 w1 w2 w3 w4 : Value, args = #[w0, w1, w2, w3, w4] := by
    have hs : args.size = 5 := by simpa [Cond.value, given_1] using g0a
    obtain ⟨L⟩ := args
    match L, hs with
    | [w0, w1, w2, w3, w4], _ => exact ⟨w0, w1, w2, w3, w4, rfl⟩
  have hw := fun d (hd : d ∈ tables_1) => atoms_spec (ws := Jvm.Cond.code x code maxLocals ret :: tables_1) hat d (List.mem_cons_of_mem _ hd)
  have hfit : Fit s := fun {y c} hc i hi => by
    obtain ⟨ha, rfl⟩ := Array.getElem?_eq_some_iff.mp hc
    have q := List.all_eq_true.mp ((Array.all_eq_true_iff_forall_mem.mp hF) _ (Array.getElem_mem ha)) i (List.mem_range.mpr hi)
    simpa [Array.getElem?_eq_getElem hi] using q
  obtain ⟨hsets, hown0⟩ := atoms_of _ (rest_1_c_eq ▸ (show rest_1_c.before _ s = true from hrest))
  obtain ⟨i0, ei0⟩ := is_v g1a
  obtain rfl : w0 = (.int i0) := Option.some.inj ei0
  obtain ⟨i1, ei1⟩ := is_v g2a
  obtain rfl : w1 = (.int i1) := Option.some.inj ei1
  obtain ⟨i2, ei2⟩ := is_v g3a
  obtain rfl : w2 = (.int i2) := Option.some.inj ei2
  obtain ⟨i3, ei3⟩ := is_v g4a
  obtain rfl : w3 = (.int i3) := Option.some.inj ei3
  obtain ⟨i4, ei4⟩ := is_v g4b
  obtain rfl : w4 = (.int i4) := Option.some.inj ei4
  obtain ⟨hn1a, hn1b⟩ := and_e hn
  obtain ⟨hn2a, hn2b⟩ := and_e hn1b
  obtain ⟨hn3a, hn3b⟩ := and_e hn2b
  obtain ⟨hn4a, hn4b⟩ := and_e hn3b
  obtain ⟨hn5a, hn5b⟩ := and_e hn4b
  obtain ⟨hn6a, hn6b⟩ := and_e hn5b
  obtain ⟨hn7a, hn7b⟩ := and_e hn6b
  obtain ⟨hn8a, hn8b⟩ := and_e hn7b
  obtain ⟨hn9a, hn9b⟩ := and_e hn8b
  obtain ⟨hn10a, hn10b⟩ := and_e hn9b
  obtain ⟨hn11a, hn11b⟩ := and_e hn10b
  obtain ⟨hn12a, hn12b⟩ := and_e hn11b
  obtain ⟨hn13a, hn13b⟩ := and_e hn12b
  obtain ⟨hn14a, hn14b⟩ := and_e hn13b
  obtain ⟨hn15a, hn15b⟩ := and_e hn14b
  obtain ⟨hn16a, hn16b⟩ := and_e hn15b
  obtain ⟨hn17a, hn17b⟩ := and_e hn16b
  obtain ⟨a_IDENTIFIER, v_a_IDENTIFIER⟩ := exa_v hn1a
  have S_IDENTIFIER := Sta.start v_a_IDENTIFIER (Or.inr ⟨(own_w hw 6 rfl), (own_w hw 7 rfl)⟩)
  have E_IDENTIFIER := Exa.start v_a_IDENTIFIER hn1a
  obtain ⟨a_SYMBOL, v_a_SYMBOL⟩ := exa_v hn2a
  have S_SYMBOL := Sta.start v_a_SYMBOL (Or.inr ⟨(own_w hw 6 rfl), (own_w hw 89 rfl)⟩)
  have E_SYMBOL := Exa.start v_a_SYMBOL hn2a
  have F_SYMBOL_ordinal := Fld.start ((fld_at v_a_SYMBOL).symm.trans (own_eqI hn3a))
  have F_IDENTIFIER_ordinal := Fld.start ((fld_at v_a_IDENTIFIER).symm.trans (own_eqI hn4a))
  obtain ⟨a_DIRECTIVE, v_a_DIRECTIVE⟩ := exa_v hn5a
  have S_DIRECTIVE := Sta.start v_a_DIRECTIVE (Or.inr ⟨(own_w hw 6 rfl), (own_w hw 91 rfl)⟩)
  have E_DIRECTIVE := Exa.start v_a_DIRECTIVE hn5a
  have F_DIRECTIVE_ordinal := Fld.start ((fld_at v_a_DIRECTIVE).symm.trans (own_eqI hn6a))
  obtain ⟨a_END, v_a_END⟩ := exa_v hn7a
  have S_END := Sta.start v_a_END (Or.inr ⟨(own_w hw 6 rfl), (own_w hw 93 rfl)⟩)
  have E_END := Exa.start v_a_END hn7a
  have F_END_ordinal := Fld.start ((fld_at v_a_END).symm.trans (own_eqI hn8a))
  obtain ⟨a_FILE_START, v_a_FILE_START⟩ := exa_v hn9a
  have S_FILE_START := Sta.start v_a_FILE_START (Or.inr ⟨(own_w hw 6 rfl), (own_w hw 95 rfl)⟩)
  have E_FILE_START := Exa.start v_a_FILE_START hn9a
  have F_FILE_START_ordinal := Fld.start ((fld_at v_a_FILE_START).symm.trans (own_eqI hn10a))
  obtain ⟨a_FILE_END, v_a_FILE_END⟩ := exa_v hn11a
  have S_FILE_END := Sta.start v_a_FILE_END (Or.inr ⟨(own_w hw 6 rfl), (own_w hw 97 rfl)⟩)
  have E_FILE_END := Exa.start v_a_FILE_END hn11a
  have F_FILE_END_ordinal := Fld.start ((fld_at v_a_FILE_END).symm.trans (own_eqI hn12a))
  obtain ⟨a_NUMBER, v_a_NUMBER⟩ := exa_v hn13a
  have S_NUMBER := Sta.start v_a_NUMBER (Or.inr ⟨(own_w hw 6 rfl), (own_w hw 99 rfl)⟩)
  have E_NUMBER := Exa.start v_a_NUMBER hn13a
  have F_NUMBER_ordinal := Fld.start ((fld_at v_a_NUMBER).symm.trans (own_eqI hn14a))
  obtain ⟨a_LITERAL, v_a_LITERAL⟩ := exa_v hn15a
  have S_LITERAL := Sta.start v_a_LITERAL (Or.inr ⟨(own_w hw 6 rfl), (own_w hw 101 rfl)⟩)
  have E_LITERAL := Exa.start v_a_LITERAL hn15a
  have F_LITERAL_ordinal := Fld.start ((fld_at v_a_LITERAL).symm.trans (own_eqI hn16a))
  obtain ⟨a_PRAGMA_PREFIX, v_a_PRAGMA_PREFIX⟩ := exa_v hn17a
  have S_PRAGMA_PREFIX := Sta.start v_a_PRAGMA_PREFIX (Or.inr ⟨(own_w hw 6 rfl), (own_w hw 103 rfl)⟩)
  have E_PRAGMA_PREFIX := Exa.start v_a_PRAGMA_PREFIX hn17a
  have F_PRAGMA_PREFIX_ordinal := Fld.start ((fld_at v_a_PRAGMA_PREFIX).symm.trans (own_eqI hn17b))
  obtain ⟨z_COMPACT_STRINGS, v_z_COMPACT_STRINGS⟩ := is_v (Cond.before_iff.mp (hsets _ (List.mem_of_getElem? (i := 1) rfl)))
  have S_COMPACT_STRINGS := Sta.start v_z_COMPACT_STRINGS (Or.inl (hsets _ (List.mem_of_getElem? (i := 0) rfl)))
  have nz_COMPACT_STRINGS := own_neI v_z_COMPACT_STRINGS (Cond.before_iff.mp (hsets _ (List.mem_of_getElem? (i := 2) rfl)))
  obtain ⟨r_SIOOBE_FORMATTER, v_r_SIOOBE_FORMATTER, i_r_SIOOBE_FORMATTER⟩ := isR_v (Cond.before_iff.mp (hsets _ (List.mem_of_getElem? (i := 8) rfl)))
  have S_SIOOBE_FORMATTER := Sta.start v_r_SIOOBE_FORMATTER (Or.inl (hsets _ (List.mem_of_getElem? (i := 7) rfl)))
  have iS_SIOOBE_FORMATTER := i_r_SIOOBE_FORMATTER
  obtain ⟨n, o, h1, h2, h3, _, L, rfl, ⟨rfl, N⟩, hq⟩ := rm_law l s _ hw tables_1 i0 i1 i2 i3 i4 a_IDENTIFIER a_SYMBOL a_DIRECTIVE a_END a_FILE_START a_FILE_END a_NUMBER a_LITERAL a_PRAGMA_PREFIX z_COMPACT_STRINGS r_SIOOBE_FORMATTER s.heap s.heap.size (Old.start s) ⟨S_IDENTIFIER, E_IDENTIFIER, S_SYMBOL, E_SYMBOL, F_SYMBOL_ordinal, F_IDENTIFIER_ordinal, S_DIRECTIVE, E_DIRECTIVE, F_DIRECTIVE_ordinal, S_END, E_END, F_END_ordinal, S_FILE_START, E_FILE_START, F_FILE_START_ordinal, S_FILE_END, E_FILE_END, F_FILE_END_ordinal, S_NUMBER, E_NUMBER, F_NUMBER_ordinal, S_LITERAL, E_LITERAL, F_LITERAL_ordinal, S_PRAGMA_PREFIX, E_PRAGMA_PREFIX, F_PRAGMA_PREFIX_ordinal, S_COMPACT_STRINGS, nz_COMPACT_STRINGS, S_SIOOBE_FORMATTER, iS_SIOOBE_FORMATTER⟩  p e ha hc hk s m _ below hf ((Spec.applies_iff_loose hf).mp happ).1 ⟨rfl, State.Warmed39.refl s, rfl⟩ trivial
  refine ⟨n, _, h1, h2, h3, hpost _ _ _ _ _ _ ⟨Cond.after_iff.mpr rfl, Cond.after_iff.mpr (eq_i res_at (Term.int_eval (1)) rfl), trivial⟩ ⟨hq.1, hq.2.1, (hq.2.2.sift fun y hy => Or.inr (N y hy)).mono (by decide) (by decide)⟩⟩
theorem main_1_1 : Claimed_1_1 := comes_1 fun _ _ _ _ _ _ h hF => ⟨h.1, hF⟩
theorem main_1_2 : Claimed_1_2 := comes_1 fun _ _ _ _ _ _ h hF => ⟨h.2.1, hF⟩
end Jvm.Pilot.@@N@@
namespace Jvm.Pilot.@@N@@
open Jvm Jvm.ClassFile Sem Op Lib Jvm.Free Jvm.Stand Jvm.Pilot.@@N@@.Jvm.D
/-! MADE BY PROGRAM (witnessworld.py) out of the Statement's table words and the real class files: 23 classes; the members and pool entries that the words name. The judged class is class 1, her method 2. -/
namespace start1
open Jvm.ClassFile
def u (s : String) : CpInfo := .utf8 (stringToUtf16 s)
/-- a pool by its gaps: so many unusable entries, then the entry; so many at the end -/
def gap : Nat → List CpInfo → List CpInfo
  | 0, r => r
  | n + 1, r => .unusable :: gap n r
def poolList (es : List (Nat × CpInfo)) (last : Nat) : List CpInfo := es.foldr (fun e r => gap e.1 (e.2 :: r)) (gap last [])
def pool (es : List (Nat × CpInfo)) (last : Nat) : Array CpInfo := ⟨poolList es last⟩
def fileOf (pool : Array CpInfo) (this : Nat) (attrs : Array Attribute := #[]) (ms : Array MethodInfo := #[]) (fl : Nat := 33) (sup : Nat := 0) (ifs : Array Nat := #[]) (fds : Array FieldInfo := #[]) : ClassFile where
  minorVersion := 0
  majorVersion := 65
  constantPool := pool
  accessFlags := fl
  thisClass := this
  superClass := sup
  interfaces := ifs
  fields := fds
  methods := ms
  attributes := attrs
def plain (name : String) (sup : Option ClassId) : Class where
  name := name
  kind := .ordinary
  loader := none
  accessFlags := 33
  super := sup
  interfaces := #[]
  cf := none
  fields := #[]
  methods := #[]
  instanceTypes := #[]
  staticTypes := #[]
  resolved := #[]
  callSites := []
  init := .initialized
  statics := none
  mirror := none

def pool0 : Array CpInfo := pool [(5, u "<init>"), (0, u "()V"), (1, .class_ 10), (1, u "java/lang/Object")] 113

def k0c0 : Code := { maxStack := 0, maxLocals := 1, code := object_method_1_code, exceptionTable := #[], attributes := #[] }
def k0m0 : Method := { name := "<init>", desc := "()V", sig := { parameters := [], returnType := none }, accessFlags := 1, code := some k0c0 }
/-- java/lang/Object -/
def k0 : Class := { plain "java/lang/Object" none with
  accessFlags := 33
  interfaces := #[]
  cf := some (fileOf pool0 8 #[] #[{ accessFlags := 1, nameIndex := 5, descriptorIndex := 6, attributes := #[] }] 33 0 #[] #[])
  fields := #[]
  methods := #[k0m0]
  instanceTypes := #[]
  staticTypes := #[]
  resolved := Array.replicate 124 none
  statics := none }

def pool1 : Array CpInfo := pool [(2, .class_ 4), (1, u "java/lang/Object"), (0, u "<init>"), (0, u "()V"), (0, .fieldref 8 9), (0, .class_ 10), (0, .nameAndType 11 12), (0, u "com/example/gate3/gate3/io/Token$Kind"), (0, u "IDENTIFIER"), (0, u "Lcom/example/gate3/gate3/io/Token$Kind;"), (0, .fieldref 8 14), (0, .nameAndType 15 12), (0, u "NUMBER"), (0, .fieldref 8 17), (0, .nameAndType 18 12), (0, u "LITERAL"), (0, .fieldref 8 20), (0, .nameAndType 21 12), (0, u "SYMBOL"), (0, .fieldref 8 23), (0, .nameAndType 24 12), (0, u "END"), (0, .fieldref 8 26), (0, .nameAndType 27 12), (0, u "PRAGMA_PREFIX"), (0, .fieldref 8 29), (0, .nameAndType 30 12), (0, u "FILE_START"), (0, .fieldref 8 32), (0, .nameAndType 33 12), (0, u "FILE_END"), (0, .fieldref 8 35), (0, .nameAndType 36 12), (0, u "DIRECTIVE"), (0, .integer 2147483647), (0, .methodref 39 40), (0, .class_ 41), (0, .nameAndType 42 43), (0, u "com/example/gate3/gate3/io/TokenIsIdentifierPinLaw"), (0, u "kindAt"), (0, u "(I)Lcom/example/gate3/gate3/io/Token$Kind;"), (0, .class_ 45), (0, u "java/lang/String"), (0, .methodref 44 47), (0, .nameAndType 5 48), (0, u "([C)V"), (0, .methodref 44 50), (0, .nameAndType 51 52), (0, u "valueOf"), (0, u "(C)Ljava/lang/String;"), (0, .class_ 54), (0, u "com/example/gate3/gate3/io/Token"), (0, .methodref 53 56), (0, .nameAndType 5 57), (0, u "(Lcom/example/gate3/gate3/io/Token$Kind;Ljava/lang/String;Ljava/lang/String;I)V"), (0, .methodref 53 59), (0, .nameAndType 60 61), (0, u "isIdentifier"), (0, u "()Z"), (0, .methodref 53 63), (0, .nameAndType 64 65), (0, u "is"), (0, u "(Ljava/lang/String;)Z"), (3, u "law"), (0, u "(IIIII)Z")] 6

def k1m0 : Method := { name := "<init>", desc := "()V", sig := { parameters := [], returnType := none }, accessFlags := 2, code := none }
def k1c1 : Code := { maxStack := 2, maxLocals := 1, code := method_2_code, exceptionTable := #[], attributes := #[] }
def k1m1 : Method := { name := "kindAt", desc := "(I)Lcom/example/gate3/gate3/io/Token$Kind;", sig := { parameters := [.int], returnType := some (.object "com/example/gate3/gate3/io/Token$Kind") }, accessFlags := 10, code := some k1c1 }
def k1c2 : Code := { maxStack := 6, maxLocals := 13, code := code, exceptionTable := #[], attributes := #[] }
def k1m2 : Method := { name := "law", desc := "(IIIII)Z", sig := { parameters := [.int, .int, .int, .int, .int], returnType := some .boolean }, accessFlags := 9, code := some k1c2 }
/-- com/example/gate3/gate3/io/TokenIsIdentifierPinLaw -/
def k1 : Class := { plain "com/example/gate3/gate3/io/TokenIsIdentifierPinLaw" (some 0) with
  accessFlags := 49
  interfaces := #[]
  cf := some (fileOf pool1 39 #[] #[{ accessFlags := 2, nameIndex := 5, descriptorIndex := 6, attributes := #[] }, { accessFlags := 10, nameIndex := 42, descriptorIndex := 43, attributes := #[] }, { accessFlags := 9, nameIndex := 69, descriptorIndex := 70, attributes := #[] }] 49 2 #[] #[])
  fields := #[]
  methods := #[k1m0, k1m1, k1m2]
  instanceTypes := #[]
  staticTypes := #[]
  resolved := Array.replicate 77 none
  statics := none }

def pool2 : Array CpInfo := pool [(1, .class_ 2), (0, u "java/lang/constant/Constable"), (0, .class_ 4), (0, u "java/lang/Object")] 6

/-- java/lang/constant/Constable -/
def k2 : Class := { plain "java/lang/constant/Constable" (some 0) with
  accessFlags := 1537
  interfaces := #[]
  cf := some (fileOf pool2 1 #[] #[] 1537 3 #[] #[])
  fields := #[]
  methods := #[]
  instanceTypes := #[]
  staticTypes := #[]
  resolved := Array.replicate 11 none
  statics := none }

def pool3 : Array CpInfo := pool [(1, .class_ 2), (0, u "java/lang/Comparable"), (0, .class_ 4), (0, u "java/lang/Object")] 7

/-- java/lang/Comparable -/
def k3 : Class := { plain "java/lang/Comparable" (some 0) with
  accessFlags := 1537
  interfaces := #[]
  cf := some (fileOf pool3 1 #[] #[] 1537 3 #[] #[])
  fields := #[]
  methods := #[]
  instanceTypes := #[]
  staticTypes := #[]
  resolved := Array.replicate 12 none
  statics := none }

def pool4 : Array CpInfo := pool [(1, .class_ 2), (0, u "java/io/Serializable"), (0, .class_ 4), (0, u "java/lang/Object")] 2

/-- java/io/Serializable -/
def k4 : Class := { plain "java/io/Serializable" (some 0) with
  accessFlags := 1537
  interfaces := #[]
  cf := some (fileOf pool4 1 #[] #[] 1537 3 #[] #[])
  fields := #[]
  methods := #[]
  instanceTypes := #[]
  staticTypes := #[]
  resolved := Array.replicate 7 none
  statics := none }

def pool5 : Array CpInfo := pool [(2, .class_ 4), (1, u "java/lang/Enum"), (0, u "name"), (0, u "Ljava/lang/String;"), (2, u "ordinal"), (0, u "I"), (1, .class_ 14), (1, u "java/lang/Object"), (4, u "hash"), (86, .class_ 108), (1, u "java/lang/Enum$EnumDesc"), (2, .class_ 112), (0, u "java/lang/constant/Constable"), (0, .class_ 114), (0, u "java/lang/Comparable"), (0, .class_ 116), (0, u "java/io/Serializable")] 87

/-- java/lang/Enum -/
def k5 : Class := { plain "java/lang/Enum" (some 0) with
  accessFlags := 1057
  interfaces := #[2, 3, 4]
  cf := some (fileOf pool5 2 #[.nestMembers #[106]] #[] 1057 12 #[111, 113, 115] #[{ accessFlags := 18, nameIndex := 5, descriptorIndex := 6, attributes := #[] }, { accessFlags := 18, nameIndex := 9, descriptorIndex := 10, attributes := #[] }, { accessFlags := 2, nameIndex := 19, descriptorIndex := 10, attributes := #[] }])
  fields := #[{ name := "name", type := (.object "java/lang/String"), accessFlags := 18, slot := 0, constantValue := 0 }, { name := "ordinal", type := .int, accessFlags := 18, slot := 1, constantValue := 0 }, { name := "hash", type := .int, accessFlags := 2, slot := 2, constantValue := 0 }]
  methods := #[]
  instanceTypes := #[(.object "java/lang/String"), .int, .int]
  staticTypes := #[]
  resolved := Array.replicate 204 none
  statics := none }

def pool6 : Array CpInfo := pool [(1, .class_ 2), (0, u "com/example/gate3/gate3/io/Token$Kind"), (2, u "IDENTIFIER"), (0, u "Lcom/example/gate3/gate3/io/Token$Kind;"), (2, u "NUMBER"), (2, u "LITERAL"), (2, u "SYMBOL"), (2, u "END"), (2, u "PRAGMA_PREFIX"), (2, u "FILE_START"), (2, u "FILE_END"), (2, u "DIRECTIVE"), (2, u "$VALUES"), (0, u "[Lcom/example/gate3/gate3/io/Token$Kind;"), (6, .class_ 43), (1, u "java/lang/Enum"), (32, .class_ 77), (0, u "com/example/gate3/gate3/io/Token")] 2

/-- com/example/gate3/gate3/io/Token$Kind -/
def k6 : Class := { plain "com/example/gate3/gate3/io/Token$Kind" (some 5) with
  accessFlags := 16432
  interfaces := #[]
  cf := some (fileOf pool6 1 #[.nestHost 76] #[] 16432 41 #[] #[{ accessFlags := 16409, nameIndex := 5, descriptorIndex := 6, attributes := #[] }, { accessFlags := 16409, nameIndex := 9, descriptorIndex := 6, attributes := #[] }, { accessFlags := 16409, nameIndex := 12, descriptorIndex := 6, attributes := #[] }, { accessFlags := 16409, nameIndex := 15, descriptorIndex := 6, attributes := #[] }, { accessFlags := 16409, nameIndex := 18, descriptorIndex := 6, attributes := #[] }, { accessFlags := 16409, nameIndex := 21, descriptorIndex := 6, attributes := #[] }, { accessFlags := 16409, nameIndex := 24, descriptorIndex := 6, attributes := #[] }, { accessFlags := 16409, nameIndex := 27, descriptorIndex := 6, attributes := #[] }, { accessFlags := 16409, nameIndex := 30, descriptorIndex := 6, attributes := #[] }, { accessFlags := 4122, nameIndex := 33, descriptorIndex := 34, attributes := #[] }])
  fields := #[{ name := "IDENTIFIER", type := (.object "com/example/gate3/gate3/io/Token$Kind"), accessFlags := 16409, slot := 0, constantValue := 0 }, { name := "NUMBER", type := (.object "com/example/gate3/gate3/io/Token$Kind"), accessFlags := 16409, slot := 1, constantValue := 0 }, { name := "LITERAL", type := (.object "com/example/gate3/gate3/io/Token$Kind"), accessFlags := 16409, slot := 2, constantValue := 0 }, { name := "SYMBOL", type := (.object "com/example/gate3/gate3/io/Token$Kind"), accessFlags := 16409, slot := 3, constantValue := 0 }, { name := "END", type := (.object "com/example/gate3/gate3/io/Token$Kind"), accessFlags := 16409, slot := 4, constantValue := 0 }, { name := "PRAGMA_PREFIX", type := (.object "com/example/gate3/gate3/io/Token$Kind"), accessFlags := 16409, slot := 5, constantValue := 0 }, { name := "FILE_START", type := (.object "com/example/gate3/gate3/io/Token$Kind"), accessFlags := 16409, slot := 6, constantValue := 0 }, { name := "FILE_END", type := (.object "com/example/gate3/gate3/io/Token$Kind"), accessFlags := 16409, slot := 7, constantValue := 0 }, { name := "DIRECTIVE", type := (.object "com/example/gate3/gate3/io/Token$Kind"), accessFlags := 16409, slot := 8, constantValue := 0 }, { name := "$VALUES", type := (.array (.object "com/example/gate3/gate3/io/Token$Kind")), accessFlags := 4122, slot := 9, constantValue := 0 }]
  methods := #[]
  instanceTypes := #[(.object "java/lang/String"), .int, .int]
  staticTypes := #[(.object "com/example/gate3/gate3/io/Token$Kind"), (.object "com/example/gate3/gate3/io/Token$Kind"), (.object "com/example/gate3/gate3/io/Token$Kind"), (.object "com/example/gate3/gate3/io/Token$Kind"), (.object "com/example/gate3/gate3/io/Token$Kind"), (.object "com/example/gate3/gate3/io/Token$Kind"), (.object "com/example/gate3/gate3/io/Token$Kind"), (.object "com/example/gate3/gate3/io/Token$Kind"), (.object "com/example/gate3/gate3/io/Token$Kind"), (.array (.object "com/example/gate3/gate3/io/Token$Kind"))]
  resolved := Array.replicate 80 none
  statics := some 0 }

def pool7 : Array CpInfo := pool [(2, .class_ 4), (1, u "java/lang/CharSequence"), (42, .class_ 48), (0, u "java/lang/CharSequence$1CodePointIterator"), (10, .class_ 60), (0, u "java/lang/CharSequence$1CharIterator"), (5, .class_ 67), (0, u "java/lang/Object")] 63

/-- java/lang/CharSequence -/
def k7 : Class := { plain "java/lang/CharSequence" (some 0) with
  accessFlags := 1537
  interfaces := #[]
  cf := some (fileOf pool7 2 #[.nestMembers #[47, 59]] #[] 1537 66 #[] #[])
  fields := #[]
  methods := #[]
  instanceTypes := #[]
  staticTypes := #[]
  resolved := Array.replicate 131 none
  statics := none }

def pool8 : Array CpInfo := pool [(1, .class_ 2), (0, u "java/lang/constant/ConstantDesc"), (0, .class_ 4), (0, u "java/lang/Object")] 32

/-- java/lang/constant/ConstantDesc -/
def k8 : Class := { plain "java/lang/constant/ConstantDesc" (some 0) with
  accessFlags := 1537
  interfaces := #[]
  cf := some (fileOf pool8 1 #[] #[] 1537 3 #[] #[])
  fields := #[]
  methods := #[]
  instanceTypes := #[]
  staticTypes := #[]
  resolved := Array.replicate 37 none
  statics := none }

def pool9 : Array CpInfo := pool [(1, .methodref 2 3), (0, .class_ 4), (0, .nameAndType 5 6), (0, u "java/lang/Object"), (0, u "<init>"), (0, u "()V"), (2, .fieldref 10 11), (0, .class_ 12), (0, .nameAndType 13 14), (0, u "java/lang/String"), (0, u "value"), (0, u "[B"), (0, .fieldref 10 16), (0, .nameAndType 17 18), (0, u "coder"), (0, u "B"), (2, u "hash"), (0, u "I"), (2, u "hashIsZero"), (0, u "Z"), (0, .methodref 10 28), (0, .nameAndType 5 29), (0, u "([CIILjava/lang/Void;)V"), (8, .fieldref 10 39), (0, .nameAndType 40 26), (0, u "COMPACT_STRINGS"), (1, .class_ 44), (1, u "java/lang/StringUTF16"), (0, u "compress"), (1, .methodref 42 48), (0, .nameAndType 49 50), (0, u "coderFromArrayLen"), (0, u "([BI)B"), (2, u "toBytes"), (53, .class_ 109), (1, u "java/lang/StringLatin1"), (67, .methodref 42 178), (0, .nameAndType 45 179), (0, u "([CII)[B"), (29, .methodref 10 210), (0, .nameAndType 5 211), (0, u "([BB)V"), (157, u "(C)Z"), (173, u "equals"), (29, u "(Ljava/lang/Object;)Z"), (1, .class_ 576), (0, u "java/lang/CharSequence"), (22, u "CASE_INSENSITIVE_ORDER"), (0, u "Ljava/util/Comparator;"), (181, u "valueOf"), (0, u "(C)Ljava/lang/String;"), (226, u "([C)V"), (4, .methodref 107 1016), (0, .nameAndType 1017 369), (0, u "canEncode"), (0, .methodref 107 1019), (0, .nameAndType 53 1020), (0, u "(C)[B"), (80, u "serialPersistentFields"), (0, u "[Ljava/io/ObjectStreamField;"), (0, .class_ 1104), (0, u "java/lang/String$CaseInsensitiveComparator"), (1, .class_ 1107), (0, u "java/io/Serializable"), (0, .class_ 1109), (0, u "java/lang/Comparable"), (0, .class_ 1111), (0, u "java/lang/constant/Constable"), (0, .class_ 1113), (0, u "java/lang/constant/ConstantDesc"), (2, u "serialVersionUID"), (0, u "J"), (3, u "REPL"), (0, u "C"), (2, u "LATIN1"), (1, u "UTF16")] 323

def k9m0 : Method := { name := "<init>", desc := "()V", sig := { parameters := [], returnType := none }, accessFlags := 1, code := none }
def k9c1 : Code := { maxStack := 5, maxLocals := 2, code := jdk_42_method_3_code, exceptionTable := #[], attributes := #[] }
def k9m1 : Method := { name := "<init>", desc := "([C)V", sig := { parameters := [(.array .char)], returnType := none }, accessFlags := 1, code := some k9c1 }
def k9c2 : Code := { maxStack := 2, maxLocals := 3, code := jdk_42_method_66_code, exceptionTable := #[], attributes := #[] }
def k9m2 : Method := { name := "equals", desc := "(Ljava/lang/Object;)Z", sig := { parameters := [(.object "java/lang/Object")], returnType := some .boolean }, accessFlags := 1, code := some k9c2 }
def k9c3 : Code := { maxStack := 4, maxLocals := 1, code := jdk_42_method_139_code, exceptionTable := #[], attributes := #[] }
def k9m3 : Method := { name := "valueOf", desc := "(C)Ljava/lang/String;", sig := { parameters := [.char], returnType := some (.object "java/lang/String") }, accessFlags := 9, code := some k9c3 }
def k9c4 : Code := { maxStack := 4, maxLocals := 6, code := jdk_42_method_149_code, exceptionTable := #[], attributes := #[] }
def k9m4 : Method := { name := "<init>", desc := "([CIILjava/lang/Void;)V", sig := { parameters := [(.array .char), .int, .int, (.object "java/lang/Void")], returnType := none }, accessFlags := 2, code := some k9c4 }
def k9c5 : Code := { maxStack := 2, maxLocals := 3, code := jdk_42_method_151_code, exceptionTable := #[], attributes := #[] }
def k9m5 : Method := { name := "<init>", desc := "([BB)V", sig := { parameters := [(.array .byte), .byte], returnType := none }, accessFlags := 0, code := some k9c5 }
/-- java/lang/String -/
def k9 : Class := { plain "java/lang/String" (some 0) with
  accessFlags := 49
  interfaces := #[4, 3, 7, 2, 8]
  cf := some (fileOf pool9 10 #[.nestMembers #[1103]] #[{ accessFlags := 1, nameIndex := 5, descriptorIndex := 6, attributes := #[] }, { accessFlags := 1, nameIndex := 5, descriptorIndex := 1010, attributes := #[] }, { accessFlags := 1, nameIndex := 543, descriptorIndex := 573, attributes := #[] }, { accessFlags := 9, nameIndex := 782, descriptorIndex := 783, attributes := #[] }, { accessFlags := 2, nameIndex := 5, descriptorIndex := 29, attributes := #[] }, { accessFlags := 0, nameIndex := 5, descriptorIndex := 211, attributes := #[] }] 49 2 #[1106, 1108, 575, 1110, 1112] #[{ accessFlags := 18, nameIndex := 13, descriptorIndex := 14, attributes := #[] }, { accessFlags := 18, nameIndex := 17, descriptorIndex := 18, attributes := #[] }, { accessFlags := 2, nameIndex := 21, descriptorIndex := 22, attributes := #[] }, { accessFlags := 2, nameIndex := 25, descriptorIndex := 26, attributes := #[] }, { accessFlags := 26, nameIndex := 1116, descriptorIndex := 1117, attributes := #[] }, { accessFlags := 24, nameIndex := 40, descriptorIndex := 26, attributes := #[] }, { accessFlags := 26, nameIndex := 1101, descriptorIndex := 1102, attributes := #[] }, { accessFlags := 26, nameIndex := 1121, descriptorIndex := 1122, attributes := #[] }, { accessFlags := 25, nameIndex := 599, descriptorIndex := 600, attributes := #[] }, { accessFlags := 24, nameIndex := 1125, descriptorIndex := 18, attributes := #[] }, { accessFlags := 24, nameIndex := 1127, descriptorIndex := 18, attributes := #[] }])
  fields := #[{ name := "value", type := (.array .byte), accessFlags := 18, slot := 0, constantValue := 0 }, { name := "coder", type := .byte, accessFlags := 18, slot := 1, constantValue := 0 }, { name := "hash", type := .int, accessFlags := 2, slot := 2, constantValue := 0 }, { name := "hashIsZero", type := .boolean, accessFlags := 2, slot := 3, constantValue := 0 }, { name := "serialVersionUID", type := .long, accessFlags := 26, slot := 0, constantValue := 0 }, { name := "COMPACT_STRINGS", type := .boolean, accessFlags := 24, slot := 1, constantValue := 0 }, { name := "serialPersistentFields", type := (.array (.object "java/io/ObjectStreamField")), accessFlags := 26, slot := 2, constantValue := 0 }, { name := "REPL", type := .char, accessFlags := 26, slot := 3, constantValue := 0 }, { name := "CASE_INSENSITIVE_ORDER", type := (.object "java/util/Comparator"), accessFlags := 25, slot := 4, constantValue := 0 }, { name := "LATIN1", type := .byte, accessFlags := 24, slot := 5, constantValue := 0 }, { name := "UTF16", type := .byte, accessFlags := 24, slot := 6, constantValue := 0 }]
  methods := #[k9m0, k9m1, k9m2, k9m3, k9m4, k9m5]
  instanceTypes := #[(.array .byte), .byte, .int, .boolean]
  staticTypes := #[.long, .boolean, (.array (.object "java/io/ObjectStreamField")), .char, (.object "java/util/Comparator"), .byte, .byte]
  resolved := Array.replicate 1451 none
  statics := some 1 }

def pool10 : Array CpInfo := pool [(6, .class_ 8), (1, u "java/lang/Object"), (0, u "<init>"), (0, u "()V"), (1, .class_ 14), (1, u "java/lang/StringUTF16"), (31, u "$assertionsDisabled"), (0, u "Z"), (13, u "HI_BYTE_SHIFT"), (0, u "I"), (2, u "LO_BYTE_SHIFT"), (49, .methodref 12 116), (0, .nameAndType 117 118), (0, u "compress"), (0, u "([CI[BII)I"), (3, u "([CII)[B"), (138, u "coderFromArrayLen"), (0, u "([BI)B"), (106, .class_ 371), (1, u "java/lang/StringUTF16$LinesSpliterator"), (58, u "MAX_LENGTH"), (196, .class_ 628), (0, u "java/lang/StringUTF16$CodePointsSpliterator"), (0, .class_ 630), (0, u "java/lang/StringUTF16$CharsSpliterator")] 4

def k10m0 : Method := { name := "<init>", desc := "()V", sig := { parameters := [], returnType := none }, accessFlags := 0, code := none }
def k10c1 : Code := { maxStack := 2, maxLocals := 2, code := jdk_52_method_15_code, exceptionTable := #[], attributes := #[] }
def k10m1 : Method := { name := "coderFromArrayLen", desc := "([BI)B", sig := { parameters := [(.array .byte), .int], returnType := some .byte }, accessFlags := 8, code := some k10c1 }
def k10c2 : Code := { maxStack := 5, maxLocals := 6, code := jdk_52_method_16_code, exceptionTable := #[], attributes := #[] }
def k10m2 : Method := { name := "compress", desc := "([CII)[B", sig := { parameters := [(.array .char), .int, .int], returnType := some (.array .byte) }, accessFlags := 9, code := some k10c2 }
def k10c3 : Code := { maxStack := 3, maxLocals := 7, code := jdk_52_method_21_code, exceptionTable := #[], attributes := #[] }
def k10m3 : Method := { name := "compress", desc := "([CI[BII)I", sig := { parameters := [(.array .char), .int, (.array .byte), .int, .int], returnType := some .int }, accessFlags := 9, code := some k10c3 }
/-- java/lang/StringUTF16 -/
def k10 : Class := { plain "java/lang/StringUTF16" (some 0) with
  accessFlags := 48
  interfaces := #[]
  cf := some (fileOf pool10 12 #[.nestMembers #[627, 629, 369]] #[{ accessFlags := 0, nameIndex := 9, descriptorIndex := 10, attributes := #[] }, { accessFlags := 8, nameIndex := 261, descriptorIndex := 262, attributes := #[] }, { accessFlags := 9, nameIndex := 117, descriptorIndex := 122, attributes := #[] }, { accessFlags := 9, nameIndex := 117, descriptorIndex := 118, attributes := #[] }] 48 6 #[] #[{ accessFlags := 26, nameIndex := 61, descriptorIndex := 62, attributes := #[] }, { accessFlags := 26, nameIndex := 65, descriptorIndex := 62, attributes := #[] }, { accessFlags := 24, nameIndex := 430, descriptorIndex := 62, attributes := #[] }, { accessFlags := 4120, nameIndex := 46, descriptorIndex := 47, attributes := #[] }])
  fields := #[{ name := "HI_BYTE_SHIFT", type := .int, accessFlags := 26, slot := 0, constantValue := 0 }, { name := "LO_BYTE_SHIFT", type := .int, accessFlags := 26, slot := 1, constantValue := 0 }, { name := "MAX_LENGTH", type := .int, accessFlags := 24, slot := 2, constantValue := 0 }, { name := "$assertionsDisabled", type := .boolean, accessFlags := 4120, slot := 3, constantValue := 0 }]
  methods := #[k10m0, k10m1, k10m2, k10m3]
  instanceTypes := #[]
  staticTypes := #[.int, .int, .int, .boolean]
  resolved := Array.replicate 635 none
  statics := none }

def pool11 : Array CpInfo := pool [(4, .class_ 6), (1, u "java/lang/Object"), (0, u "<init>"), (0, u "()V"), (5, .class_ 16), (1, u "java/lang/StringLatin1"), (73, u "canEncode"), (14, u "(C)Z"), (15, u "$assertionsDisabled"), (0, u "Z"), (98, .class_ 223), (1, u "java/lang/StringLatin1$LinesSpliterator"), (156, u "toBytes"), (1, u "(C)[B"), (7, .class_ 391), (0, u "java/lang/StringLatin1$CharsSpliterator")] 3

def k11m0 : Method := { name := "<init>", desc := "()V", sig := { parameters := [], returnType := none }, accessFlags := 0, code := none }
def k11c1 : Code := { maxStack := 2, maxLocals := 1, code := jdk_43_method_3_code, exceptionTable := #[], attributes := #[] }
def k11m1 : Method := { name := "canEncode", desc := "(C)Z", sig := { parameters := [.char], returnType := some .boolean }, accessFlags := 9, code := some k11c1 }
def k11c2 : Code := { maxStack := 4, maxLocals := 1, code := jdk_43_method_46_code, exceptionTable := #[], attributes := #[] }
def k11m2 : Method := { name := "toBytes", desc := "(C)[B", sig := { parameters := [.char], returnType := some (.array .byte) }, accessFlags := 9, code := some k11c2 }
/-- java/lang/StringLatin1 -/
def k11 : Class := { plain "java/lang/StringLatin1" (some 0) with
  accessFlags := 48
  interfaces := #[]
  cf := some (fileOf pool11 14 #[.nestMembers #[390, 221]] #[{ accessFlags := 0, nameIndex := 7, descriptorIndex := 8, attributes := #[] }, { accessFlags := 9, nameIndex := 90, descriptorIndex := 105, attributes := #[] }, { accessFlags := 9, nameIndex := 380, descriptorIndex := 382, attributes := #[] }] 48 4 #[] #[{ accessFlags := 4120, nameIndex := 121, descriptorIndex := 122, attributes := #[] }])
  fields := #[{ name := "$assertionsDisabled", type := .boolean, accessFlags := 4120, slot := 0, constantValue := 0 }]
  methods := #[k11m0, k11m1, k11m2]
  instanceTypes := #[]
  staticTypes := #[.boolean]
  resolved := Array.replicate 395 none
  statics := none }

def pool12 : Array CpInfo := pool [(1, .methodref 2 3), (0, .class_ 4), (0, .nameAndType 5 6), (0, u "java/lang/Object"), (0, u "<init>"), (0, u "()V"), (0, .class_ 8), (0, u "java/lang/Record")] 13

def k12c0 : Code := { maxStack := 1, maxLocals := 1, code := jdk_30_method_1_code, exceptionTable := #[], attributes := #[] }
def k12m0 : Method := { name := "<init>", desc := "()V", sig := { parameters := [], returnType := none }, accessFlags := 4, code := some k12c0 }
/-- java/lang/Record -/
def k12 : Class := { plain "java/lang/Record" (some 0) with
  accessFlags := 1057
  interfaces := #[]
  cf := some (fileOf pool12 7 #[] #[{ accessFlags := 4, nameIndex := 5, descriptorIndex := 6, attributes := #[] }] 1057 2 #[] #[])
  fields := #[]
  methods := #[k12m0]
  instanceTypes := #[]
  staticTypes := #[]
  resolved := Array.replicate 22 none
  statics := none }

def pool13 : Array CpInfo := pool [(1, .methodref 2 3), (0, .class_ 4), (0, .nameAndType 5 6), (0, u "java/lang/Record"), (0, u "<init>"), (0, u "()V"), (0, .fieldref 8 9), (0, .class_ 10), (0, .nameAndType 11 12), (0, u "com/example/gate3/gate3/io/Token"), (0, u "kind"), (0, u "Lcom/example/gate3/gate3/io/Token$Kind;"), (0, .fieldref 8 14), (0, .nameAndType 15 16), (0, u "text"), (0, u "Ljava/lang/String;"), (0, .fieldref 8 18), (0, .nameAndType 19 16), (0, u "source"), (0, .fieldref 8 21), (0, .nameAndType 22 23), (0, u "line"), (0, u "I"), (0, .fieldref 25 26), (0, .class_ 27), (0, .nameAndType 28 12), (0, u "com/example/gate3/gate3/io/Token$Kind"), (0, u "IDENTIFIER"), (3, .methodref 33 34), (0, .class_ 35), (0, .nameAndType 36 37), (0, u "java/lang/String"), (0, u "equals"), (0, u "(Ljava/lang/Object;)Z"), (30, u "(Lcom/example/gate3/gate3/io/Token$Kind;Ljava/lang/String;Ljava/lang/String;I)V"), (3, u "is"), (0, u "(Ljava/lang/String;)Z"), (1, u "isIdentifier"), (0, u "()Z")] 42

def k13c0 : Code := { maxStack := 2, maxLocals := 5, code := prog_59_method_1_code, exceptionTable := #[], attributes := #[] }
def k13m0 : Method := { name := "<init>", desc := "(Lcom/example/gate3/gate3/io/Token$Kind;Ljava/lang/String;Ljava/lang/String;I)V", sig := { parameters := [(.object "com/example/gate3/gate3/io/Token$Kind"), (.object "java/lang/String"), (.object "java/lang/String"), .int], returnType := none }, accessFlags := 0, code := some k13c0 }
def k13c1 : Code := { maxStack := 2, maxLocals := 2, code := prog_59_method_2_code, exceptionTable := #[], attributes := #[] }
def k13m1 : Method := { name := "is", desc := "(Ljava/lang/String;)Z", sig := { parameters := [(.object "java/lang/String")], returnType := some .boolean }, accessFlags := 0, code := some k13c1 }
def k13c2 : Code := { maxStack := 2, maxLocals := 1, code := prog_59_method_3_code, exceptionTable := #[], attributes := #[] }
def k13m2 : Method := { name := "isIdentifier", desc := "()Z", sig := { parameters := [], returnType := some .boolean }, accessFlags := 0, code := some k13c2 }
/-- com/example/gate3/gate3/io/Token -/
def k13 : Class := { plain "com/example/gate3/gate3/io/Token" (some 12) with
  accessFlags := 48
  interfaces := #[]
  cf := some (fileOf pool13 8 #[.nestMembers #[25]] #[{ accessFlags := 0, nameIndex := 5, descriptorIndex := 68, attributes := #[] }, { accessFlags := 0, nameIndex := 72, descriptorIndex := 73, attributes := #[] }, { accessFlags := 0, nameIndex := 75, descriptorIndex := 76, attributes := #[] }] 48 2 #[] #[{ accessFlags := 18, nameIndex := 11, descriptorIndex := 12, attributes := #[] }, { accessFlags := 18, nameIndex := 15, descriptorIndex := 16, attributes := #[] }, { accessFlags := 18, nameIndex := 19, descriptorIndex := 16, attributes := #[] }, { accessFlags := 18, nameIndex := 22, descriptorIndex := 23, attributes := #[] }])
  fields := #[{ name := "kind", type := (.object "com/example/gate3/gate3/io/Token$Kind"), accessFlags := 18, slot := 0, constantValue := 0 }, { name := "text", type := (.object "java/lang/String"), accessFlags := 18, slot := 1, constantValue := 0 }, { name := "source", type := (.object "java/lang/String"), accessFlags := 18, slot := 2, constantValue := 0 }, { name := "line", type := .int, accessFlags := 18, slot := 3, constantValue := 0 }]
  methods := #[k13m0, k13m1, k13m2]
  instanceTypes := #[(.object "com/example/gate3/gate3/io/Token$Kind"), (.object "java/lang/String"), (.object "java/lang/String"), .int]
  staticTypes := #[]
  resolved := Array.replicate 119 none
  statics := none }

def pool14 : Array CpInfo := pool [(2, .class_ 4), (1, u "java/lang/Object"), (0, u "<init>"), (0, u "()V"), (17, .class_ 26), (1, u "jdk/internal/util/Preconditions"), (28, .class_ 56), (0, u "jdk/internal/util/Preconditions$4"), (57, .class_ 115), (0, u "jdk/internal/util/Preconditions$1"), (7, u "SIOOBE_FORMATTER"), (0, u "Ljava/util/function/BiFunction;"), (0, .class_ 126), (0, u "jdk/internal/util/Preconditions$2"), (3, u "AIOOBE_FORMATTER"), (0, .class_ 132), (0, u "jdk/internal/util/Preconditions$3"), (3, u "IOOBE_FORMATTER")] 57

def k14m0 : Method := { name := "<init>", desc := "()V", sig := { parameters := [], returnType := none }, accessFlags := 1, code := none }
/-- jdk/internal/util/Preconditions -/
def k14 : Class := { plain "jdk/internal/util/Preconditions" (some 0) with
  accessFlags := 33
  interfaces := #[]
  cf := some (fileOf pool14 24 #[.nestMembers #[55, 131, 125, 114]] #[{ accessFlags := 1, nameIndex := 5, descriptorIndex := 6, attributes := #[] }] 33 2 #[] #[{ accessFlags := 25, nameIndex := 123, descriptorIndex := 124, attributes := #[] }, { accessFlags := 25, nameIndex := 130, descriptorIndex := 124, attributes := #[] }, { accessFlags := 25, nameIndex := 136, descriptorIndex := 124, attributes := #[] }])
  fields := #[{ name := "SIOOBE_FORMATTER", type := (.object "java/util/function/BiFunction"), accessFlags := 25, slot := 0, constantValue := 0 }, { name := "AIOOBE_FORMATTER", type := (.object "java/util/function/BiFunction"), accessFlags := 25, slot := 1, constantValue := 0 }, { name := "IOOBE_FORMATTER", type := (.object "java/util/function/BiFunction"), accessFlags := 25, slot := 2, constantValue := 0 }]
  methods := #[k14m0]
  instanceTypes := #[]
  staticTypes := #[(.object "java/util/function/BiFunction"), (.object "java/util/function/BiFunction"), (.object "java/util/function/BiFunction")]
  resolved := Array.replicate 194 none
  statics := some 2 }

def pool15 : Array CpInfo := pool [(9, u "<init>"), (6, .class_ 18), (1, u "java/lang/Object"), (0, u "()V"), (1, .class_ 23), (1, u "jdk/internal/util/ArraysSupport"), (0, u "LOG2_ARRAY_LONG_INDEX_SCALE"), (0, u "I"), (2, u "U"), (0, u "Ljdk/internal/misc/Unsafe;"), (8, u "BIG_ENDIAN"), (0, u "Z"), (8, u "LOG2_BYTE_BIT_SIZE"), (4, u "LOG2_ARRAY_INT_INDEX_SCALE"), (54, u "JLA"), (0, u "Ljdk/internal/access/JavaLangAccess;"), (11, u "LOG2_ARRAY_BOOLEAN_INDEX_SCALE"), (9, u "LOG2_ARRAY_BYTE_INDEX_SCALE"), (5, u "LOG2_ARRAY_CHAR_INDEX_SCALE"), (5, u "LOG2_ARRAY_SHORT_INDEX_SCALE"), (18, u "LOG2_ARRAY_FLOAT_INDEX_SCALE"), (24, u "LOG2_ARRAY_DOUBLE_INDEX_SCALE"), (89, u "T_BOOLEAN"), (2, u "T_CHAR"), (1, u "T_FLOAT"), (1, u "T_DOUBLE"), (1, u "T_BYTE"), (1, u "T_SHORT"), (1, u "T_INT"), (1, u "T_LONG"), (1, u "SOFT_MAX_ARRAY_LENGTH")] 83

def k15m0 : Method := { name := "<init>", desc := "()V", sig := { parameters := [], returnType := none }, accessFlags := 2, code := none }
/-- jdk/internal/util/ArraysSupport -/
def k15 : Class := { plain "jdk/internal/util/ArraysSupport" (some 0) with
  accessFlags := 33
  interfaces := #[]
  cf := some (fileOf pool15 21 #[] #[{ accessFlags := 2, nameIndex := 9, descriptorIndex := 19, attributes := #[] }] 33 16 #[] #[{ accessFlags := 24, nameIndex := 28, descriptorIndex := 29, attributes := #[] }, { accessFlags := 26, nameIndex := 38, descriptorIndex := 39, attributes := #[] }, { accessFlags := 25, nameIndex := 121, descriptorIndex := 25, attributes := #[] }, { accessFlags := 25, nameIndex := 131, descriptorIndex := 25, attributes := #[] }, { accessFlags := 25, nameIndex := 137, descriptorIndex := 25, attributes := #[] }, { accessFlags := 25, nameIndex := 143, descriptorIndex := 25, attributes := #[] }, { accessFlags := 25, nameIndex := 53, descriptorIndex := 25, attributes := #[] }, { accessFlags := 25, nameIndex := 24, descriptorIndex := 25, attributes := #[] }, { accessFlags := 25, nameIndex := 162, descriptorIndex := 25, attributes := #[] }, { accessFlags := 25, nameIndex := 187, descriptorIndex := 25, attributes := #[] }, { accessFlags := 26, nameIndex := 48, descriptorIndex := 25, attributes := #[] }, { accessFlags := 25, nameIndex := 277, descriptorIndex := 25, attributes := #[] }, { accessFlags := 25, nameIndex := 280, descriptorIndex := 25, attributes := #[] }, { accessFlags := 25, nameIndex := 282, descriptorIndex := 25, attributes := #[] }, { accessFlags := 25, nameIndex := 284, descriptorIndex := 25, attributes := #[] }, { accessFlags := 25, nameIndex := 286, descriptorIndex := 25, attributes := #[] }, { accessFlags := 25, nameIndex := 288, descriptorIndex := 25, attributes := #[] }, { accessFlags := 25, nameIndex := 290, descriptorIndex := 25, attributes := #[] }, { accessFlags := 25, nameIndex := 292, descriptorIndex := 25, attributes := #[] }, { accessFlags := 26, nameIndex := 108, descriptorIndex := 109, attributes := #[] }, { accessFlags := 25, nameIndex := 294, descriptorIndex := 25, attributes := #[] }])
  fields := #[{ name := "U", type := (.object "jdk/internal/misc/Unsafe"), accessFlags := 24, slot := 0, constantValue := 0 }, { name := "BIG_ENDIAN", type := .boolean, accessFlags := 26, slot := 1, constantValue := 0 }, { name := "LOG2_ARRAY_BOOLEAN_INDEX_SCALE", type := .int, accessFlags := 25, slot := 2, constantValue := 0 }, { name := "LOG2_ARRAY_BYTE_INDEX_SCALE", type := .int, accessFlags := 25, slot := 3, constantValue := 0 }, { name := "LOG2_ARRAY_CHAR_INDEX_SCALE", type := .int, accessFlags := 25, slot := 4, constantValue := 0 }, { name := "LOG2_ARRAY_SHORT_INDEX_SCALE", type := .int, accessFlags := 25, slot := 5, constantValue := 0 }, { name := "LOG2_ARRAY_INT_INDEX_SCALE", type := .int, accessFlags := 25, slot := 6, constantValue := 0 }, { name := "LOG2_ARRAY_LONG_INDEX_SCALE", type := .int, accessFlags := 25, slot := 7, constantValue := 0 }, { name := "LOG2_ARRAY_FLOAT_INDEX_SCALE", type := .int, accessFlags := 25, slot := 8, constantValue := 0 }, { name := "LOG2_ARRAY_DOUBLE_INDEX_SCALE", type := .int, accessFlags := 25, slot := 9, constantValue := 0 }, { name := "LOG2_BYTE_BIT_SIZE", type := .int, accessFlags := 26, slot := 10, constantValue := 0 }, { name := "T_BOOLEAN", type := .int, accessFlags := 25, slot := 11, constantValue := 0 }, { name := "T_CHAR", type := .int, accessFlags := 25, slot := 12, constantValue := 0 }, { name := "T_FLOAT", type := .int, accessFlags := 25, slot := 13, constantValue := 0 }, { name := "T_DOUBLE", type := .int, accessFlags := 25, slot := 14, constantValue := 0 }, { name := "T_BYTE", type := .int, accessFlags := 25, slot := 15, constantValue := 0 }, { name := "T_SHORT", type := .int, accessFlags := 25, slot := 16, constantValue := 0 }, { name := "T_INT", type := .int, accessFlags := 25, slot := 17, constantValue := 0 }, { name := "T_LONG", type := .int, accessFlags := 25, slot := 18, constantValue := 0 }, { name := "JLA", type := (.object "jdk/internal/access/JavaLangAccess"), accessFlags := 26, slot := 19, constantValue := 0 }, { name := "SOFT_MAX_ARRAY_LENGTH", type := .int, accessFlags := 25, slot := 20, constantValue := 0 }]
  methods := #[k15m0]
  instanceTypes := #[]
  staticTypes := #[(.object "jdk/internal/misc/Unsafe"), .boolean, .int, .int, .int, .int, .int, .int, .int, .int, .int, .int, .int, .int, .int, .int, .int, .int, .int, (.object "jdk/internal/access/JavaLangAccess"), .int]
  resolved := Array.replicate 378 none
  statics := none }

def pool16 : Array CpInfo := pool [(1, u "java/lang/Cloneable"), (0, .class_ 1), (0, u "java/lang/Object"), (0, .class_ 3)] 3

/-- java/lang/Cloneable -/
def k16 : Class := { plain "java/lang/Cloneable" (some 0) with
  accessFlags := 1537
  interfaces := #[]
  cf := some (fileOf pool16 2 #[] #[] 1537 4 #[] #[])
  fields := #[]
  methods := #[]
  instanceTypes := #[]
  staticTypes := #[]
  resolved := Array.replicate 8 none
  statics := none }

/-- the primitive byte -/
def k17 : Class := { plain "byte" none with kind := .primitive 'B', accessFlags := 0x411 }
/-- [B -/
def k18 : Class := { plain "[B" (some 0) with kind := .array 17 .byte, interfaces := #[16, 4], accessFlags := 1041 }

/-- the primitive char -/
def k19 : Class := { plain "char" none with kind := .primitive 'C', accessFlags := 0x411 }
/-- [C -/
def k20 : Class := { plain "[C" (some 0) with kind := .array 19 .char, interfaces := #[16, 4], accessFlags := 1041 }

/-- the primitive int -/
def k21 : Class := { plain "int" none with kind := .primitive 'I', accessFlags := 0x411 }
/-- [I -/
def k22 : Class := { plain "[I" (some 0) with kind := .array 21 .int, interfaces := #[16, 4], accessFlags := 1041 }

def heap : Heap := #[{ cls := 6, slots := #[.ref 3, .ref 9, .ref 10, .ref 4, .ref 6, .ref 11, .ref 7, .ref 8, .ref 5, .null], vm := .statics 6 },
  { cls := 9, slots := #[.long 0, .int 1, .null, .int 0, .null, .int 0, .int 0], vm := .statics 9 },
  { cls := 14, slots := #[.null, .null, .null], vm := .statics 14 },
  { cls := 6, slots := #[.null, .int 0, .int 0], vm := .none },
  { cls := 6, slots := #[.null, .int 3, .int 0], vm := .none },
  { cls := 6, slots := #[.null, .int 8, .int 0], vm := .none },
  { cls := 6, slots := #[.null, .int 4, .int 0], vm := .none },
  { cls := 6, slots := #[.null, .int 6, .int 0], vm := .none },
  { cls := 6, slots := #[.null, .int 7, .int 0], vm := .none },
  { cls := 6, slots := #[.null, .int 1, .int 0], vm := .none },
  { cls := 6, slots := #[.null, .int 2, .int 0], vm := .none },
  { cls := 6, slots := #[.null, .int 5, .int 0], vm := .none }]
def classes : Array Class := #[k0, k1, k2, k3, k4, k5, k6, k7, k8, k9, k10, k11, k12, k13, k14, k15, k16, k17, k18, k19, k20, k21, k22]
def interned : List (Array UInt16 × Addr) := []
def slotsUsed : Nat := 47
def theMethod : MethodId := ⟨1, 2⟩
def args0 : Array Value := #[.int 9, .int 65, .int 66, .int 67, .int 1]
def aboutOver (below : List Frame) : State where
  vm := { classes := classes, interned := interned.toArray }
  heap := heap
  slotsUsed := slotsUsed
  threads := #[{ frames := .invoking theMethod args0 :: below }]
def below0 : List Frame := [.native { method := ⟨0, 0⟩, args := #[] }]
def about1 : State := aboutOver below0
def p0 : Program := .bare "" "" ""
def e0 : Env := launch0.env 0 0 0
theorem w_frames : about1.frames = Frame.invoking theMethod args0 :: below0 := rfl
set_option maxRecDepth 65536 in
theorem w_args : argsFit about1.vm theMethod args0 = true := by decide +kernel
set_option maxRecDepth 65536 in
theorem w_heap : heapFits about1 = true := by decide +kernel
set_option maxRecDepth 65536 in
theorem w_runnable : about1.curStatus? = some .runnable := by decide +kernel
set_option maxRecDepth 65536 in
theorem w_alone : about1.alone = true := by decide +kernel
set_option maxRecDepth 65536 in
theorem w_named : about1.methodNamed? x = some theMethod := by decide +kernel
set_option maxRecDepth 65536 in
theorem w_hears : about1.hears theMethod below0 = true := by decide +kernel
set_option maxRecDepth 65536 in
theorem w_ripe : about1.ripe theMethod args0 below0 = true := by decide +kernel
theorem w_running : about1.status = .running := rfl
set_option maxRecDepth 65536 in
theorem w_room : about1.hasRoom e0.platform room_1 = true :=
  launch0.hasRoom_least _ room_1 (by decide +kernel) (by decide +kernel) (by decide +kernel) (by decide +kernel) (by decide +kernel) (by decide +kernel)
theorem allAtoms_all (ts : List Jvm.Cond) (a : Array Jvm.Value) (st : Jvm.State) : (allAtoms ts).before a st = ts.all (fun c => c.before a st) := by
  induction ts with
  | nil => rfl
  | cons c t ih =>
    show (Jvm.Cond.and c (allAtoms t)).before a st = _
    rw [Jvm.Cond.before_and, ih, List.all_cons]
def words1 : List Jvm.Cond := Jvm.Cond.code x code maxLocals ret :: tables_1
/-- a 'code' word, met by the world's own term for the bytes: nothing is compared byte by byte -/
theorem code_word {y : MethodName} {bytes : ByteArray} {mx : Nat} {rt : Option FieldType} {a : Array Value} {s : State} {m : MethodId} {meth : Method} {c : Code} (h1 : s.methodNamed? y = some m) (h2 : s.vm.method? m = some meth) (h3 : meth.code = some c) (h4 : c.code = bytes)
    (h5 : (c.maxLocals == mx && c.exceptionTable.isEmpty && decide (c.maxStack ≤ mostOperands) && decide (meth.sig.returnType = rt) && !meth.locks && decide (parseMethodDescriptor y.desc = some meth.sig)) = true) : (Jvm.Cond.code y bytes mx rt).before a s = true := by
  simp only [Bool.and_eq_true, beq_iff_eq, Bool.not_eq_true', decide_eq_true_eq] at h5
  obtain ⟨⟨⟨⟨⟨g1, g2⟩, g3⟩, g4⟩, g5⟩, g6⟩ := h5
  simp [Cond.before, Cond.holds, Cond.value, h1, h2, h3, h4, g1, g2, g3, g4, g5, g6]
def isCode : Jvm.Cond → Bool
  | .code _ _ _ _ => true
  | _ => false
theorem all_split {L : List Jvm.Cond} {P : Jvm.Cond → Bool} (h1 : L.all (fun c => isCode c || P c) = true) (h2 : ∀ c ∈ L.filter isCode, P c = true) : L.all P = true := by
  refine List.all_eq_true.mpr fun c hc => ?_
  have h := List.all_eq_true.mp h1 c hc
  rcases Bool.eq_false_or_eq_true (isCode c) with hi | hi
  · exact h2 c (List.mem_filter.mpr ⟨hc, hi⟩)
  · simpa [hi] using h
set_option maxRecDepth 65536 in
theorem w_c0 : (Jvm.Cond.code x code maxLocals ret).before args0 about1 = true := code_word (m := ⟨1, 2⟩) (meth := k1m2) (c := k1c2) (by decide +kernel) rfl rfl rfl (by decide +kernel)
set_option maxRecDepth 65536 in
theorem w_c1 : (Jvm.Cond.code ({ cls := "com/example/gate3/gate3/io/TokenIsIdentifierPinLaw", name := "kindAt", desc := "(I)Lcom/example/gate3/gate3/io/Token$Kind;" } : Jvm.MethodName) method_2_code (1 : Nat) (Option.some (Jvm.ClassFile.FieldType.object "com/example/gate3/gate3/io/Token$Kind"))).before args0 about1 = true := code_word (m := ⟨1, 1⟩) (meth := k1m1) (c := k1c1) (by decide +kernel) rfl rfl rfl (by decide +kernel)
set_option maxRecDepth 65536 in
theorem w_c2 : (Jvm.Cond.code ({ cls := "java/lang/String", name := "<init>", desc := "([C)V" } : Jvm.MethodName) jdk_42_method_3_code (2 : Nat) (Option.none : Option Jvm.ClassFile.FieldType)).before args0 about1 = true := code_word (m := ⟨9, 1⟩) (meth := k9m1) (c := k9c1) (by decide +kernel) rfl rfl rfl (by decide +kernel)
set_option maxRecDepth 65536 in
theorem w_c3 : (Jvm.Cond.code ({ cls := "java/lang/String", name := "<init>", desc := "([CIILjava/lang/Void;)V" } : Jvm.MethodName) jdk_42_method_149_code (6 : Nat) (Option.none : Option Jvm.ClassFile.FieldType)).before args0 about1 = true := code_word (m := ⟨9, 4⟩) (meth := k9m4) (c := k9c4) (by decide +kernel) rfl rfl rfl (by decide +kernel)
set_option maxRecDepth 65536 in
theorem w_c4 : (Jvm.Cond.code ({ cls := "java/lang/Object", name := "<init>", desc := "()V" } : Jvm.MethodName) object_method_1_code (1 : Nat) (Option.none : Option Jvm.ClassFile.FieldType)).before args0 about1 = true := code_word (m := ⟨0, 0⟩) (meth := k0m0) (c := k0c0) (by decide +kernel) rfl rfl rfl (by decide +kernel)
set_option maxRecDepth 65536 in
theorem w_c5 : (Jvm.Cond.code ({ cls := "java/lang/StringUTF16", name := "compress", desc := "([CII)[B" } : Jvm.MethodName) jdk_52_method_16_code (6 : Nat) (Option.some (Jvm.ClassFile.FieldType.array Jvm.ClassFile.FieldType.byte))).before args0 about1 = true := code_word (m := ⟨10, 2⟩) (meth := k10m2) (c := k10c2) (by decide +kernel) rfl rfl rfl (by decide +kernel)
set_option maxRecDepth 65536 in
theorem w_c6 : (Jvm.Cond.code ({ cls := "java/lang/StringUTF16", name := "compress", desc := "([CI[BII)I" } : Jvm.MethodName) jdk_52_method_21_code (7 : Nat) (Option.some Jvm.ClassFile.FieldType.int)).before args0 about1 = true := code_word (m := ⟨10, 3⟩) (meth := k10m3) (c := k10c3) (by decide +kernel) rfl rfl rfl (by decide +kernel)
set_option maxRecDepth 65536 in
theorem w_c7 : (Jvm.Cond.code ({ cls := "java/lang/StringUTF16", name := "coderFromArrayLen", desc := "([BI)B" } : Jvm.MethodName) jdk_52_method_15_code (2 : Nat) (Option.some Jvm.ClassFile.FieldType.byte)).before args0 about1 = true := code_word (m := ⟨10, 1⟩) (meth := k10m1) (c := k10c1) (by decide +kernel) rfl rfl rfl (by decide +kernel)
set_option maxRecDepth 65536 in
theorem w_c8 : (Jvm.Cond.code ({ cls := "java/lang/String", name := "valueOf", desc := "(C)Ljava/lang/String;" } : Jvm.MethodName) jdk_42_method_139_code (1 : Nat) (Option.some (Jvm.ClassFile.FieldType.object "java/lang/String"))).before args0 about1 = true := code_word (m := ⟨9, 3⟩) (meth := k9m3) (c := k9c3) (by decide +kernel) rfl rfl rfl (by decide +kernel)
set_option maxRecDepth 65536 in
theorem w_c9 : (Jvm.Cond.code ({ cls := "java/lang/StringLatin1", name := "canEncode", desc := "(C)Z" } : Jvm.MethodName) jdk_43_method_3_code (1 : Nat) (Option.some Jvm.ClassFile.FieldType.boolean)).before args0 about1 = true := code_word (m := ⟨11, 1⟩) (meth := k11m1) (c := k11c1) (by decide +kernel) rfl rfl rfl (by decide +kernel)
set_option maxRecDepth 65536 in
theorem w_c10 : (Jvm.Cond.code ({ cls := "java/lang/StringLatin1", name := "toBytes", desc := "(C)[B" } : Jvm.MethodName) jdk_43_method_46_code (1 : Nat) (Option.some (Jvm.ClassFile.FieldType.array Jvm.ClassFile.FieldType.byte))).before args0 about1 = true := code_word (m := ⟨11, 2⟩) (meth := k11m2) (c := k11c2) (by decide +kernel) rfl rfl rfl (by decide +kernel)
set_option maxRecDepth 65536 in
theorem w_c11 : (Jvm.Cond.code ({ cls := "java/lang/String", name := "<init>", desc := "([BB)V" } : Jvm.MethodName) jdk_42_method_151_code (3 : Nat) (Option.none : Option Jvm.ClassFile.FieldType)).before args0 about1 = true := code_word (m := ⟨9, 5⟩) (meth := k9m5) (c := k9c5) (by decide +kernel) rfl rfl rfl (by decide +kernel)
set_option maxRecDepth 65536 in
theorem w_c12 : (Jvm.Cond.code ({ cls := "com/example/gate3/gate3/io/Token", name := "<init>", desc := "(Lcom/example/gate3/gate3/io/Token$Kind;Ljava/lang/String;Ljava/lang/String;I)V" } : Jvm.MethodName) prog_59_method_1_code (5 : Nat) (Option.none : Option Jvm.ClassFile.FieldType)).before args0 about1 = true := code_word (m := ⟨13, 0⟩) (meth := k13m0) (c := k13c0) (by decide +kernel) rfl rfl rfl (by decide +kernel)
set_option maxRecDepth 65536 in
theorem w_c13 : (Jvm.Cond.code ({ cls := "java/lang/Record", name := "<init>", desc := "()V" } : Jvm.MethodName) jdk_30_method_1_code (1 : Nat) (Option.none : Option Jvm.ClassFile.FieldType)).before args0 about1 = true := code_word (m := ⟨12, 0⟩) (meth := k12m0) (c := k12c0) (by decide +kernel) rfl rfl rfl (by decide +kernel)
set_option maxRecDepth 65536 in
theorem w_c14 : (Jvm.Cond.code ({ cls := "com/example/gate3/gate3/io/Token", name := "isIdentifier", desc := "()Z" } : Jvm.MethodName) prog_59_method_3_code (1 : Nat) (Option.some Jvm.ClassFile.FieldType.boolean)).before args0 about1 = true := code_word (m := ⟨13, 2⟩) (meth := k13m2) (c := k13c2) (by decide +kernel) rfl rfl rfl (by decide +kernel)
set_option maxRecDepth 65536 in
theorem w_c15 : (Jvm.Cond.code ({ cls := "com/example/gate3/gate3/io/Token", name := "is", desc := "(Ljava/lang/String;)Z" } : Jvm.MethodName) prog_59_method_2_code (2 : Nat) (Option.some Jvm.ClassFile.FieldType.boolean)).before args0 about1 = true := code_word (m := ⟨13, 1⟩) (meth := k13m1) (c := k13c1) (by decide +kernel) rfl rfl rfl (by decide +kernel)
set_option maxRecDepth 65536 in
theorem w_c16 : (Jvm.Cond.code ({ cls := "java/lang/String", name := "equals", desc := "(Ljava/lang/Object;)Z" } : Jvm.MethodName) jdk_42_method_66_code (3 : Nat) (Option.some Jvm.ClassFile.FieldType.boolean)).before args0 about1 = true := code_word (m := ⟨9, 2⟩) (meth := k9m2) (c := k9c2) (by decide +kernel) rfl rfl rfl (by decide +kernel)
def codes1 : List Jvm.Cond := [Jvm.Cond.code x code maxLocals ret, Jvm.Cond.code ({ cls := "com/example/gate3/gate3/io/TokenIsIdentifierPinLaw", name := "kindAt", desc := "(I)Lcom/example/gate3/gate3/io/Token$Kind;" } : Jvm.MethodName) method_2_code (1 : Nat) (Option.some (Jvm.ClassFile.FieldType.object "com/example/gate3/gate3/io/Token$Kind")), Jvm.Cond.code ({ cls := "java/lang/String", name := "<init>", desc := "([C)V" } : Jvm.MethodName) jdk_42_method_3_code (2 : Nat) (Option.none : Option Jvm.ClassFile.FieldType), Jvm.Cond.code ({ cls := "java/lang/String", name := "<init>", desc := "([CIILjava/lang/Void;)V" } : Jvm.MethodName) jdk_42_method_149_code (6 : Nat) (Option.none : Option Jvm.ClassFile.FieldType), Jvm.Cond.code ({ cls := "java/lang/Object", name := "<init>", desc := "()V" } : Jvm.MethodName) object_method_1_code (1 : Nat) (Option.none : Option Jvm.ClassFile.FieldType), Jvm.Cond.code ({ cls := "java/lang/StringUTF16", name := "compress", desc := "([CII)[B" } : Jvm.MethodName) jdk_52_method_16_code (6 : Nat) (Option.some (Jvm.ClassFile.FieldType.array Jvm.ClassFile.FieldType.byte)), Jvm.Cond.code ({ cls := "java/lang/StringUTF16", name := "compress", desc := "([CI[BII)I" } : Jvm.MethodName) jdk_52_method_21_code (7 : Nat) (Option.some Jvm.ClassFile.FieldType.int), Jvm.Cond.code ({ cls := "java/lang/StringUTF16", name := "coderFromArrayLen", desc := "([BI)B" } : Jvm.MethodName) jdk_52_method_15_code (2 : Nat) (Option.some Jvm.ClassFile.FieldType.byte), Jvm.Cond.code ({ cls := "java/lang/String", name := "valueOf", desc := "(C)Ljava/lang/String;" } : Jvm.MethodName) jdk_42_method_139_code (1 : Nat) (Option.some (Jvm.ClassFile.FieldType.object "java/lang/String")), Jvm.Cond.code ({ cls := "java/lang/StringLatin1", name := "canEncode", desc := "(C)Z" } : Jvm.MethodName) jdk_43_method_3_code (1 : Nat) (Option.some Jvm.ClassFile.FieldType.boolean), Jvm.Cond.code ({ cls := "java/lang/StringLatin1", name := "toBytes", desc := "(C)[B" } : Jvm.MethodName) jdk_43_method_46_code (1 : Nat) (Option.some (Jvm.ClassFile.FieldType.array Jvm.ClassFile.FieldType.byte)), Jvm.Cond.code ({ cls := "java/lang/String", name := "<init>", desc := "([BB)V" } : Jvm.MethodName) jdk_42_method_151_code (3 : Nat) (Option.none : Option Jvm.ClassFile.FieldType), Jvm.Cond.code ({ cls := "com/example/gate3/gate3/io/Token", name := "<init>", desc := "(Lcom/example/gate3/gate3/io/Token$Kind;Ljava/lang/String;Ljava/lang/String;I)V" } : Jvm.MethodName) prog_59_method_1_code (5 : Nat) (Option.none : Option Jvm.ClassFile.FieldType), Jvm.Cond.code ({ cls := "java/lang/Record", name := "<init>", desc := "()V" } : Jvm.MethodName) jdk_30_method_1_code (1 : Nat) (Option.none : Option Jvm.ClassFile.FieldType), Jvm.Cond.code ({ cls := "com/example/gate3/gate3/io/Token", name := "isIdentifier", desc := "()Z" } : Jvm.MethodName) prog_59_method_3_code (1 : Nat) (Option.some Jvm.ClassFile.FieldType.boolean), Jvm.Cond.code ({ cls := "com/example/gate3/gate3/io/Token", name := "is", desc := "(Ljava/lang/String;)Z" } : Jvm.MethodName) prog_59_method_2_code (2 : Nat) (Option.some Jvm.ClassFile.FieldType.boolean), Jvm.Cond.code ({ cls := "java/lang/String", name := "equals", desc := "(Ljava/lang/Object;)Z" } : Jvm.MethodName) jdk_42_method_66_code (3 : Nat) (Option.some Jvm.ClassFile.FieldType.boolean)]
set_option maxRecDepth 65536 in
theorem codes_eq : words1.filter isCode = codes1 := rfl
theorem w_codes : ∀ c ∈ words1.filter isCode, c.before args0 about1 = true := by
  rw [codes_eq]
  intro c hc
  simp only [codes1, List.mem_cons, List.not_mem_nil, or_false] at hc
  rcases hc with rfl | rfl | rfl | rfl | rfl | rfl | rfl | rfl | rfl | rfl | rfl | rfl | rfl | rfl | rfl | rfl | rfl
  · exact w_c0
  · exact w_c1
  · exact w_c2
  · exact w_c3
  · exact w_c4
  · exact w_c5
  · exact w_c6
  · exact w_c7
  · exact w_c8
  · exact w_c9
  · exact w_c10
  · exact w_c11
  · exact w_c12
  · exact w_c13
  · exact w_c14
  · exact w_c15
  · exact w_c16
set_option maxRecDepth 65536 in
theorem w_t1 : (words1.take 24).all (fun c => isCode c || c.before args0 about1) = true := by decide +kernel
set_option maxRecDepth 65536 in
theorem w_t2 : ((words1.drop 24).take 24).all (fun c => isCode c || c.before args0 about1) = true := by decide +kernel
set_option maxRecDepth 65536 in
theorem w_t3 : (((words1.drop 24).drop 24).take 24).all (fun c => isCode c || c.before args0 about1) = true := by decide +kernel
set_option maxRecDepth 65536 in
theorem w_t4 : ((((words1.drop 24).drop 24).drop 24).take 24).all (fun c => isCode c || c.before args0 about1) = true := by decide +kernel
set_option maxRecDepth 65536 in
theorem w_t5 : ((((words1.drop 24).drop 24).drop 24).drop 24).all (fun c => isCode c || c.before args0 about1) = true := by decide +kernel
theorem w_tables : (allAtoms (Jvm.Cond.code x code maxLocals ret :: tables_1)).before args0 about1 = true := by
  rw [allAtoms_all]
  show words1.all (fun c => c.before args0 about1) = true
  refine all_split ?_ w_codes
  rw [← List.take_append_drop 24 words1, List.all_append, w_t1, ← List.take_append_drop 24 (words1.drop 24), List.all_append, w_t2, ← List.take_append_drop 24 ((words1.drop 24).drop 24), List.all_append, w_t3, ← List.take_append_drop 24 (((words1.drop 24).drop 24).drop 24), List.all_append, w_t4, w_t5]
  rfl
set_option maxRecDepth 65536 in
theorem w_rest : rest_1_c.before args0 about1 = true := by decide +kernel
set_option maxRecDepth 65536 in
theorem w_case : (Jvm.Cond.and given_1 narrow_1).before args0 about1 = true := by decide +kernel
theorem w_applies : (headSpec (Jvm.Cond.code x code maxLocals ret :: tables_1) room_1).applies x e0.platform about1 = true :=
  (Spec.applies_iff w_frames).mpr ⟨w_running, w_runnable, w_alone, w_named, w_hears, w_ripe, w_room, w_tables⟩
theorem atStart : AtStart classFile x code maxLocals ret World_1 tables_1 room_1 Calls_1 rest_1 Pre_1 launch0 p0 e0 about1 theMethod args0 below0 :=
  ⟨lists_1, trivial, launch0.admits_env _ _ _, launch0.least_env, fairChoices_fair.cas, fairChoices_fair.clock, w_frames, w_args, w_heap, w_applies, trivial, w_rest, w_case⟩
end start1
theorem witness_1 : WitnessClaimed_1 := ⟨start1.p0, start1.e0, start1.about1, start1.theMethod, start1.args0, start1.below0, start1.atStart⟩
end Jvm.Pilot.@@N@@
