import JvmDerived
import JvmDerived.Pilot.@@N@@Statement
import JvmDerived.Pilot.@@N@@Code
set_option linter.unusedVariables false
set_option linter.unusedSimpArgs false
/- laws to paste: Road.backV, Road.eqW, Road.codOf (cut by pick.py; bodies as the Statement names them) -/
namespace Jvm.Pilot.@@N@@
namespace StrChars
open Jvm Sem ClassFile Op Lib Jvm.Stand Jvm.Free.XT Jvm.Free.ALB Jvm.Free.JM Jvm.Free
open Jvm.Lib.Cold (StaticIs)
/-- a char array whose places are chars -/
def Ch (a : Addr) (A : Cell) (U : State) : Prop := Arr .char a A U ∧ Typed .char A
theorem Ch.mv {a : Addr} {A : Cell} {U U' : State} (h : Ch a A U) (hal : U.vm.Alike U'.vm) (hh : U'.heap = U.heap) : Ch a A U' := ⟨h.1.mv hal hh, h.2⟩
theorem Ch.keep {a : Addr} {A : Cell} {U U' : State} (h : Ch a A U) (hal : U.vm.Alike U'.vm) (hk : U'.heap[a]? = some A) : Ch a A U' := ⟨h.1.keep hal hk, h.2⟩
/-- what place i of a char[]'s cell holds -/
def cv (A : Cell) (i : Nat) : Int32 := match A.slots[i]? with | some (.int x) => x | _ => 0
theorem Ch.get {a : Addr} {A : Cell} {U : State} (h : Ch a A U) {i : Nat} (hi : i < A.slots.size) : A.slots[i]? = some (.int (cv A i)) := by
  have e := Array.getElem?_eq_getElem hi
  have f := h.2 i _ e
  unfold cv; rw [e]
  generalize A.slots[i] = v at f
  cases v <;> simp [fits] at f ⊢
/-- the byte that i2b leaves of a char -/
def lo8 (x : Int32) : Int32 := x.toInt8.toInt32
theorem fits_lo8 (y : Int32) : fits .byte (.int (lo8 y)) = true := by
  have h1 := y.toInt8.le_toInt
  have h2 := y.toInt8.toInt_lt
  simp only [lo8, fits, Bool.and_eq_true, decide_eq_true_eq, Int32.le_iff_toInt_le, Int8.toInt_toInt32, show (-128 : Int32).toInt = -128 from by decide, show (127 : Int32).toInt = 127 from by decide]
  omega
/-- A' is A but that each place j of lo .. hi - 1 holds f j -/
def Laid (A A' : Cell) (lo hi : Nat) (f : Nat → Value) : Prop := A'.cls = A.cls ∧ A'.vm = A.vm ∧ A'.slots.size = A.slots.size ∧ ∀ i, A'.slots[i]? = if lo ≤ i ∧ i < hi then some (f i) else A.slots[i]?
theorem Laid.zero (A : Cell) (lo : Nat) (f : Nat → Value) : Laid A A lo (lo + 0) f := ⟨rfl, rfl, rfl, fun i => by rw [if_neg (by omega)]⟩
theorem Laid.step {A Ak : Cell} {lo k : Nat} {f : Nat → Value} {v : Value} (h : Laid A Ak lo k f) (hlo : lo ≤ k) (hk : k < Ak.slots.size) (hv : v = f k) : Laid A (Ak.setSlot k v) lo (k + 1) f := by
  refine ⟨h.1, h.2.1, by simpa [Cell.setSlot] using h.2.2.1, fun i => ?_⟩
  by_cases e : k = i
  · subst e; rw [Cell.slots_setSlot_self v hk, if_pos (by omega), hv]
  · rw [Cell.slots_setSlot_ne v e, h.2.2.2 i]
    by_cases q : lo ≤ i ∧ i < k
    · rw [if_pos q, if_pos (by omega)]
    · rw [if_neg q, if_neg (by omega)]
def U16 : String := "java/lang/StringUTF16"
namespace Cmp5
def yN : MethodName := ⟨"java/lang/StringUTF16", "compress", "([CI[BII)I"⟩
abbrev yB : ByteArray := jdk_52_method_21_code
theorem d0 : decode yB 0 = .ok (.iconst 0, 1) := by decide +kernel
theorem d1 : decode yB 1 = .ok (.istore 5, 2) := by decide +kernel
theorem d3 : decode yB 3 = .ok (.iload 5, 2) := by decide +kernel
theorem d5 : decode yB 5 = .ok (.iload 4, 2) := by decide +kernel
theorem d7 : decode yB 7 = .ok (.if_icmp (.ge) 37, 3) := by decide +kernel
theorem d10 : decode yB 10 = .ok (.aload_n 0, 1) := by decide +kernel
theorem d11 : decode yB 11 = .ok (.iload_n 1, 1) := by decide +kernel
theorem d12 : decode yB 12 = .ok (.caload, 1) := by decide +kernel
theorem d13 : decode yB 13 = .ok (.istore 6, 2) := by decide +kernel
theorem d15 : decode yB 15 = .ok (.iload 6, 2) := by decide +kernel
theorem d17 : decode yB 17 = .ok (.sipush 255, 3) := by decide +kernel
theorem d20 : decode yB 20 = .ok (.if_icmp (.le) 6, 3) := by decide +kernel
theorem d26 : decode yB 26 = .ok (.aload_n 2, 1) := by decide +kernel
theorem d27 : decode yB 27 = .ok (.iload_n 3, 1) := by decide +kernel
theorem d28 : decode yB 28 = .ok (.iload 6, 2) := by decide +kernel
theorem d30 : decode yB 30 = .ok (.i2b, 1) := by decide +kernel
theorem d31 : decode yB 31 = .ok (.bastore, 1) := by decide +kernel
theorem d32 : decode yB 32 = .ok (.iinc 1 1, 3) := by decide +kernel
theorem d35 : decode yB 35 = .ok (.iinc 3 1, 3) := by decide +kernel
theorem d38 : decode yB 38 = .ok (.iinc 5 1, 3) := by decide +kernel
theorem d41 : decode yB 41 = .ok (.goto (-38), 3) := by decide +kernel
theorem d44 : decode yB 44 = .ok (.iload 4, 2) := by decide +kernel
theorem d46 : decode yB 46 = .ok (.ireturn, 1) := by decide +kernel
def site : List Cond := []
def tab : Cond := tabOf yN yB 7 (some .int) site
def P (b : Addr) (A : Cell) (d : Addr) (B : Cell) (o q len : Nat) (args : Array Value) (s : State) : Prop := args = #[.ref b, .int (Int32.ofNat o), .ref d, .int (Int32.ofNat q), .int (Int32.ofNat len)] ∧ Ch b A s ∧ Arr .byte d B s ∧ b ≠ d ∧ o + len ≤ A.slots.size ∧ q + len ≤ B.slots.size ∧ ∀ i, i < len → ¬ 255 < cv A (o + i)
def E (b : Addr) (A : Cell) (d : Addr) (B : Cell) (o q len : Nat) (r : Option Value) (s u : State) : Prop := r = some (.int (Int32.ofNat len)) ∧ ∃ B', Put d B' s u ∧ Laid B B' q (q + len) (fun j => Value.int (lo8 (cv A (o + (j - q)))))
/-- no char of the range above 255: len; the places written hold each char's low byte -/
theorem law (l : Launch) (b : Addr) (A : Cell) (d : Addr) (B : Cell) (o q len : Nat) : Law l yN 5 5 0 0 yB 7 (some .int) site (P b A d B o q len) (E b A d B o q len) (copyLocs d q len) 0 0 := by
  refine Law.of_walk (plainFor_of_name (by decide +kernel)) (by decide +kernel) (by decide +kernel) (by decide) (fun _ _ h => by rw [h.1]; rfl) (fun _ U U' hal hh h => ⟨h.1, h.2.1.mv hal hh, h.2.2.1.mv hal hh, h.2.2.2⟩) (fun r U U' V V' h1 hal h2 h => ⟨h.1, h.2.elim fun B' q => ⟨B', q.1.mv h1 h2, q.2⟩⟩) ?_
  intro p e s m args below meth c s₁ X0 hexec hbytes hml hret hlk hnm hown hh0 W hP
  obtain ⟨rfl, hA, hB, hne, l1, l2, hp⟩ := hP
  have c1 : Steps p.tables e below (s₁.setTop (entryFrame m #[.ref b, .int (Int32.ofNat o), .ref d, .int (Int32.ofNat q), .int (Int32.ofNat len)] 7)) (s₁.setTop (mkF m 0 #[.val (.ref b), .val (.int (Int32.ofNat o)), .val (.ref d), .val (.int (Int32.ofNat q)), .val (.int (Int32.ofNat len)), .unset, .unset] [])) := entry rfl
  have hA0 := hA.1.mv X0.warmed.alike hh0
  have hB0 := hB.mv X0.warmed.alike hh0
  have a31 := hA.1.2.2.2
  have c2 : Steps p.tables e below (s₁.setTop (entryFrame m #[.ref b, .int (Int32.ofNat o), .ref d, .int (Int32.ofNat q), .int (Int32.ofNat len)] 7)) (s₁.setTop (mkF m 3 #[.val (.ref b), .val (.int (Int32.ofNat o)), .val (.ref d), .val (.int (Int32.ofNat q)), .val (.int (Int32.ofNat len)), .val (.int 0), .unset] [])) := c1.trans (by
    refine iconstV X0.here hexec rfl 0 (hb hbytes d0) (by decide) ?_
    refine XS.istore X0.here hexec rfl (hb hbytes d1) rfl rfl ?_
    exact Steps.refl _)
  have loop : ∀ (r i : Nat), i + r = len → ∀ (z : Slot), (z = .unset ∨ ∃ w, z = .val w ∧ w.category = 1) → ∀ (Tl : State) (Bk : Cell), Stand p l e { frames := 0, locals := 0, cells := 0, slots := 0 } s m #[.ref b, .int (Int32.ofNat o), .ref d, .int (Int32.ofNat q), .int (Int32.ofNat len)] below meth c Tl ([] ++ copyLocs d q i) 0 0 → Put d Bk s₁ Tl → Laid B Bk q (q + i) (fun j => Value.int (lo8 (cv A (o + (j - q))))) →
      Steps p.tables e below (s₁.setTop (entryFrame m #[.ref b, .int (Int32.ofNat o), .ref d, .int (Int32.ofNat q), .int (Int32.ofNat len)] 7)) (Tl.setTop (mkF m 3 #[.val (.ref b), .val (.int (Int32.ofNat (o + i))), .val (.ref d), .val (.int (Int32.ofNat (q + i))), .val (.int (Int32.ofNat len)), .val (.int (Int32.ofNat i)), z] [])) → ∃ (T' : State) (B' : Cell) (z' : Slot), Stand p l e { frames := 0, locals := 0, cells := 0, slots := 0 } s m #[.ref b, .int (Int32.ofNat o), .ref d, .int (Int32.ofNat q), .int (Int32.ofNat len)] below meth c T' ([] ++ copyLocs d q len) 0 0 ∧ Put d B' s₁ T' ∧ Laid B B' q (q + len) (fun j => Value.int (lo8 (cv A (o + (j - q))))) ∧
      Steps p.tables e below (s₁.setTop (entryFrame m #[.ref b, .int (Int32.ofNat o), .ref d, .int (Int32.ofNat q), .int (Int32.ofNat len)] 7)) (T'.setTop (mkF m 3 #[.val (.ref b), .val (.int (Int32.ofNat (o + len))), .val (.ref d), .val (.int (Int32.ofNat (q + len))), .val (.int (Int32.ofNat len)), .val (.int (Int32.ofNat len)), z'] [])) := by
    intro r
    induction r with
    | zero =>
      intro i hi z hz Tl Bk Xl pl fl cl
      have hil : i = len := by omega
      rw [hil] at Xl fl cl
      exact ⟨Tl, Bk, z, Xl, pl, fl, cl⟩
    | succ r ih =>
      intro i hi z hz Tl Bk Xl pl fl cl
      have all := X0.warmed.alike.symm.trans Xl.warmed.alike
      have hAl := hA0.keep all (pl.other hne hA0.1)
      have hBk := hB0.like all pl.1 fl.1 fl.2.1 fl.2.2.1
      have hlt : q + i < Bk.slots.size := by rw [fl.2.2.1]; omega
      have c3 : Steps p.tables e below (s₁.setTop (entryFrame m #[.ref b, .int (Int32.ofNat o), .ref d, .int (Int32.ofNat q), .int (Int32.ofNat len)] 7)) (Tl.setTop (mkF m 12 #[.val (.ref b), .val (.int (Int32.ofNat (o + i))), .val (.ref d), .val (.int (Int32.ofNat (q + i))), .val (.int (Int32.ofNat len)), .val (.int (Int32.ofNat i)), z] [.int (Int32.ofNat (o + i)), .ref b])) := cl.trans (by
        refine XS.iload Xl.here hexec rfl (hb hbytes d3) rfl ?_
        refine XS.iload Xl.here hexec rfl (hb hbytes d5) rfl ?_
        refine XS.icmpNo Xl.here hexec rfl (hb hbytes d7) rfl (ii_ge_f (lt32 (by omega) (by omega))) ?_
        refine XS.aloadN Xl.here hexec rfl (hb hbytes d10) rfl rfl ?_
        refine XS.iloadN Xl.here hexec rfl (hb hbytes d11) rfl ?_
        exact Steps.refl _)
      have c4 : Steps p.tables e below (s₁.setTop (entryFrame m #[.ref b, .int (Int32.ofNat o), .ref d, .int (Int32.ofNat q), .int (Int32.ofNat len)] 7)) (Tl.setTop (mkF m 13 #[.val (.ref b), .val (.int (Int32.ofNat (o + i))), .val (.ref d), .val (.int (Int32.ofNat (q + i))), .val (.int (Int32.ofNat len)), .val (.int (Int32.ofNat i)), z] [.int (cv A (o + i))])) := c3.trans (by
        refine Xl.aget hexec hAl rfl (hA.get (i := o + i) (by omega)) rfl rfl (hb hbytes d12) ?_
        exact Steps.refl _)
      have c5 : Steps p.tables e below (s₁.setTop (entryFrame m #[.ref b, .int (Int32.ofNat o), .ref d, .int (Int32.ofNat q), .int (Int32.ofNat len)] 7)) (Tl.setTop (mkF m 15 #[.val (.ref b), .val (.int (Int32.ofNat (o + i))), .val (.ref d), .val (.int (Int32.ofNat (q + i))), .val (.int (Int32.ofNat len)), .val (.int (Int32.ofNat i)), .val (.int (cv A (o + i)))] [])) := c4.trans (by
        refine XS.istoreS Xl.here hexec rfl (hb hbytes d13) rfl rfl hz ?_
        exact Steps.refl _)
      have c6 : Steps p.tables e below (s₁.setTop (entryFrame m #[.ref b, .int (Int32.ofNat o), .ref d, .int (Int32.ofNat q), .int (Int32.ofNat len)] 7)) (Tl.setTop (mkF m 31 #[.val (.ref b), .val (.int (Int32.ofNat (o + i))), .val (.ref d), .val (.int (Int32.ofNat (q + i))), .val (.int (Int32.ofNat len)), .val (.int (Int32.ofNat i)), .val (.int (cv A (o + i)))] [.int (lo8 (cv A (o + i))), .int (Int32.ofNat (q + i)), .ref d])) := c5.trans (by
        refine XS.iload Xl.here hexec rfl (hb hbytes d15) rfl ?_
        refine sipushV Xl.here hexec rfl 255 (hb hbytes d17) (by decide) ?_
        refine XS.icmpYes Xl.here hexec rfl (pc0 := 20) rfl (hb hbytes d20) rfl (ii_le_t (hp i (by omega))) (by decide) rfl ?_
        refine XS.aloadN Xl.here hexec rfl (hb hbytes d26) rfl rfl ?_
        refine XS.iloadN Xl.here hexec rfl (hb hbytes d27) rfl ?_
        refine XS.iload Xl.here hexec rfl (hb hbytes d28) rfl ?_
        refine i2b Xl.here hexec rfl (hb hbytes d30) rfl ?_
        exact Steps.refl _)
      obtain ⟨T7, X7, p7, st7⟩ := Xl.aput hexec hBk rfl hlt rfl (fits_lo8 (cv A (o + i))) (g := (mkF m 31 #[.val (.ref b), .val (.int (Int32.ofNat (o + i))), .val (.ref d), .val (.int (Int32.ofNat (q + i))), .val (.int (Int32.ofNat len)), .val (.int (Int32.ofNat i)), .val (.int (cv A (o + i)))] [.int (lo8 (cv A (o + i))), .int (Int32.ofNat (q + i)), .ref d])) rfl (rest := []) rfl (hb hbytes d31)
      have c8 : Steps p.tables e below (s₁.setTop (entryFrame m #[.ref b, .int (Int32.ofNat o), .ref d, .int (Int32.ofNat q), .int (Int32.ofNat len)] 7)) (T7.setTop (mkF m 32 #[.val (.ref b), .val (.int (Int32.ofNat (o + i))), .val (.ref d), .val (.int (Int32.ofNat (q + i))), .val (.int (Int32.ofNat len)), .val (.int (Int32.ofNat i)), .val (.int (cv A (o + i)))] [])) := c6.trans (st7 _ (Steps.refl _))
      have c9 : Steps p.tables e below (s₁.setTop (entryFrame m #[.ref b, .int (Int32.ofNat o), .ref d, .int (Int32.ofNat q), .int (Int32.ofNat len)] 7)) (T7.setTop (mkF m 3 #[.val (.ref b), .val (.int (Int32.ofNat (o + i) + 1)), .val (.ref d), .val (.int (Int32.ofNat (q + i) + 1)), .val (.int (Int32.ofNat len)), .val (.int (Int32.ofNat i + 1)), .val (.int (cv A (o + i)))] [])) := c8.trans (by
        refine iincV X7.here hexec rfl 1 (hb hbytes d32) (by decide) rfl rfl ?_
        refine iincV X7.here hexec rfl 1 (hb hbytes d35) (by decide) rfl rfl ?_
        refine iincV X7.here hexec rfl 1 (hb hbytes d38) (by decide) rfl rfl ?_
        refine XS.goto X7.here hexec rfl (pc0 := 41) rfl (hb hbytes d41) (by decide) rfl ?_
        exact Steps.refl _)
      have c10 : Steps p.tables e below (s₁.setTop (entryFrame m #[.ref b, .int (Int32.ofNat o), .ref d, .int (Int32.ofNat q), .int (Int32.ofNat len)] 7)) (T7.setTop (mkF m 3 #[.val (.ref b), .val (.int (Int32.ofNat (o + (i + 1)))), .val (.ref d), .val (.int (Int32.ofNat (q + (i + 1)))), .val (.int (Int32.ofNat len)), .val (.int (Int32.ofNat (i + 1))), .val (.int (cv A (o + i)))] [])) := by
        have := c9
        rw [succ32, succ32, succ32] at this
        exact this
      exact ih (i + 1) (by omega) _ (Or.inr ⟨_, rfl, rfl⟩) T7 _ (by rw [copyLocs_step, ← List.append_assoc]; exact X7) (pl.trans p7) (fl.step (by omega) hlt (by simp)) c10
  obtain ⟨T9, B9, z9, X9, p9, f9, g9⟩ := loop len 0 (by omega) .unset (Or.inl rfl) s₁ B (by simpa [copyLocs] using X0) ⟨hB0.1, fun _ _ => rfl, rfl⟩ (Laid.zero _ _ _) c2
  have c11 : Steps p.tables e below (s₁.setTop (entryFrame m #[.ref b, .int (Int32.ofNat o), .ref d, .int (Int32.ofNat q), .int (Int32.ofNat len)] 7)) (T9.setTop (mkF m 46 #[.val (.ref b), .val (.int (Int32.ofNat (o + len))), .val (.ref d), .val (.int (Int32.ofNat (q + len))), .val (.int (Int32.ofNat len)), .val (.int (Int32.ofNat len)), z9] [.int (Int32.ofNat len)])) := g9.trans (by
    refine XS.iload X9.here hexec rfl (hb hbytes d3) rfl ?_
    refine XS.iload X9.here hexec rfl (hb hbytes d5) rfl ?_
    refine XS.icmpYes X9.here hexec rfl (pc0 := 7) rfl (hb hbytes d7) rfl (ii_ge_t (nlt32 (by omega) (Nat.le_refl _))) (by decide) rfl ?_
    refine XS.iload X9.here hexec rfl (hb hbytes d44) rfl ?_
    exact Steps.refl _)
  exact ⟨T9, some (.int (Int32.ofNat len)), _, _, _, X9, by simp, rfl, rfl, (fun h => by cases h), ⟨rfl, B9, p9.from hh0, f9⟩, fun fs hl => c11.trans (X9.ireturnOut hexec hret rfl (Or.inl rfl) (hb hbytes d46) hl)⟩
end Cmp5
namespace Cmp3
def yN : MethodName := ⟨"java/lang/StringUTF16", "compress", "([CII)[B"⟩
abbrev yB : ByteArray := jdk_52_method_16_code
theorem d0 : decode yB 0 = .ok (.iload_n 2, 1) := by decide +kernel
theorem d1 : decode yB 1 = .ok (.newarray .byte, 2) := by decide +kernel
theorem d3 : decode yB 3 = .ok (.astore_n 3, 1) := by decide +kernel
theorem d4 : decode yB 4 = .ok (.aload_n 0, 1) := by decide +kernel
theorem d5 : decode yB 5 = .ok (.iload_n 1, 1) := by decide +kernel
theorem d6 : decode yB 6 = .ok (.aload_n 3, 1) := by decide +kernel
theorem d7 : decode yB 7 = .ok (.iconst 0, 1) := by decide +kernel
theorem d8 : decode yB 8 = .ok (.iload_n 2, 1) := by decide +kernel
theorem d9 : decode yB 9 = .ok (.invokestatic 115, 3) := by decide +kernel
theorem d12 : decode yB 12 = .ok (.istore 4, 2) := by decide +kernel
theorem d14 : decode yB 14 = .ok (.iload 4, 2) := by decide +kernel
theorem d16 : decode yB 16 = .ok (.iload_n 2, 1) := by decide +kernel
theorem d17 : decode yB 17 = .ok (.if_icmp (.eq) 40, 3) := by decide +kernel
theorem d57 : decode yB 57 = .ok (.aload_n 3, 1) := by decide +kernel
theorem d58 : decode yB 58 = .ok (.areturn, 1) := by decide +kernel
def site : List Cond := [.arrayClass .byte, Cmp5.tab] ++ staticW U16 115 Cmp5.yN
def tab : Cond := tabOf yN yB 6 (some (.array .byte)) site
def P (b : Addr) (A : Cell) (o len : Nat) (args : Array Value) (s : State) : Prop := args = #[.ref b, .int (Int32.ofNat o), .int (Int32.ofNat len)] ∧ Ch b A s ∧ o + len ≤ A.slots.size ∧ len ≤ 536870912 ∧ ∀ i, i < len → ¬ 255 < cv A (o + i)
def E (b : Addr) (A : Cell) (o len : Nat) (r : Option Value) (s u : State) : Prop := NewArr .byte "[B" len (fun j => .int (lo8 (cv A (o + j)))) r s u ∧ u.heap.size = s.heap.size + 1
/-- no char of the range above 255: a new byte[] of their low bytes -/
theorem law (l : Launch) (b : Addr) (A : Cell) (o len : Nat) : Law l yN 3 3 1 18 yB 6 (some (.array .byte)) site (P b A o len) (E b A o len) [] 1 len := by
  refine Law.of_walk (plainFor_of_name (by decide +kernel)) (by decide +kernel) (by decide +kernel) (by decide) (fun _ _ h => by rw [h.1]; rfl) (fun _ U U' hal hh h => ⟨h.1, h.2.1.mv hal hh, h.2.2⟩) (fun r U U' V V' h1 hal h2 h => ⟨NewArr.mv r U U' V V' h1 hal h2 h.1, by rw [h1, h2]; exact h.2⟩) ?_
  intro p e s m args below meth c s₁ X0 hexec hbytes hml hret hlk hnm hown hh0 W hP
  obtain ⟨rfl, hA, l1, l2, hp⟩ := hP
  have a31 := hA.1.2.2.2
  have c1 : Steps p.tables e below (s₁.setTop (entryFrame m #[.ref b, .int (Int32.ofNat o), .int (Int32.ofNat len)] 6)) (s₁.setTop (mkF m 0 #[.val (.ref b), .val (.int (Int32.ofNat o)), .val (.int (Int32.ofNat len)), .unset, .unset, .unset] [])) := entry rfl
  have c2 : Steps p.tables e below (s₁.setTop (entryFrame m #[.ref b, .int (Int32.ofNat o), .int (Int32.ofNat len)] 6)) (s₁.setTop (mkF m 1 #[.val (.ref b), .val (.int (Int32.ofNat o)), .val (.int (Int32.ofNat len)), .unset, .unset, .unset] [.int (Int32.ofNat len)])) := c1.trans (by
    refine XS.iloadN X0.here hexec rfl (hb hbytes d0) rfl ?_
    exact Steps.refl _)
  obtain ⟨T3, B3, X3, ba3, bs3, bv3, bh3, bf3, st3⟩ := X0.anew hexec (atype := .byte) (wk W (.arrayClass .byte)) rfl (by show len * 1 ≤ _; omega) (by omega) (g := (mkF m 1 #[.val (.ref b), .val (.int (Int32.ofNat o)), .val (.int (Int32.ofNat len)), .unset, .unset, .unset] [.int (Int32.ofNat len)])) rfl (hb hbytes d1) (rest := []) rfl (Nat.le_refl _) (by show 0 + len ≤ len; omega)
  rw [hh0] at ba3 st3
  have kp3 : XT.Kept s T3 := (XT.Kept.of_eq hh0).push bh3
  have hA3 := hA.keep X3.warmed.alike (kp3 _ _ hA.1.1)
  have hne : b ≠ s.heap.size := hA.1.ne
  have c4 : Steps p.tables e below (s₁.setTop (entryFrame m #[.ref b, .int (Int32.ofNat o), .int (Int32.ofNat len)] 6)) (T3.setTop (mkF m 3 #[.val (.ref b), .val (.int (Int32.ofNat o)), .val (.int (Int32.ofNat len)), .unset, .unset, .unset] [.ref s.heap.size])) := c2.trans (st3 _ (Steps.refl _))
  have c5 : Steps p.tables e below (s₁.setTop (entryFrame m #[.ref b, .int (Int32.ofNat o), .int (Int32.ofNat len)] 6)) (T3.setTop (mkF m 9 #[.val (.ref b), .val (.int (Int32.ofNat o)), .val (.int (Int32.ofNat len)), .val (.ref s.heap.size), .unset, .unset] [.int (Int32.ofNat len), .int 0, .ref s.heap.size, .int (Int32.ofNat o), .ref b])) := c4.trans (by
    refine XS.astoreN X3.here hexec rfl (hb hbytes d3) rfl rfl rfl ?_
    refine XS.aloadN X3.here hexec rfl (hb hbytes d4) rfl rfl ?_
    refine XS.iloadN X3.here hexec rfl (hb hbytes d5) rfl ?_
    refine XS.aloadN X3.here hexec rfl (hb hbytes d6) rfl rfl ?_
    refine iconstV X3.here hexec rfl 0 (hb hbytes d7) (by decide) ?_
    refine XS.iloadN X3.here hexec rfl (hb hbytes d8) rfl ?_
    exact Steps.refl _)
  obtain ⟨v6, T6, X6, E6, g6⟩ := X3.callS hexec (Cmp5.law l b A s.heap.size B3 o 0 len) hown (wks W (staticW U16 115 Cmp5.yN)) (wk W Cmp5.tab) (W := 0) (Nat.le_of_ble_eq_true rfl) (Nat.le_of_ble_eq_true rfl) (Nat.le_refl _) (by show 0 + len + 0 ≤ len; omega) (g := (mkF m 9 #[.val (.ref b), .val (.int (Int32.ofNat o)), .val (.int (Int32.ofNat len)), .val (.ref s.heap.size), .unset, .unset] [.int (Int32.ofNat len), .int (Int32.ofNat 0), .ref s.heap.size, .int (Int32.ofNat o), .ref b])) rfl (by rw [hml]; rfl) c5 (argsL := [.ref b, .int (Int32.ofNat o), .ref s.heap.size, .int (Int32.ofNat 0), .int (Int32.ofNat len)]) (rest := []) rfl rfl (by show 2 * 0 + 0 ≤ _; decide) (hb hbytes d9) (⟨rfl, hA3, ba3, hne, l1, by rw [bs3]; simp, hp⟩)
  obtain ⟨rfl, B6, p6, f6⟩ := E6
  have c7 : Steps p.tables e below (s₁.setTop (entryFrame m #[.ref b, .int (Int32.ofNat o), .int (Int32.ofNat len)] 6)) (T6.setTop (mkF m 12 #[.val (.ref b), .val (.int (Int32.ofNat o)), .val (.int (Int32.ofNat len)), .val (.ref s.heap.size), .unset, .unset] [.int (Int32.ofNat len)])) := g6
  have c8 : Steps p.tables e below (s₁.setTop (entryFrame m #[.ref b, .int (Int32.ofNat o), .int (Int32.ofNat len)] 6)) (T6.setTop (mkF m 58 #[.val (.ref b), .val (.int (Int32.ofNat o)), .val (.int (Int32.ofNat len)), .val (.ref s.heap.size), .val (.int (Int32.ofNat len)), .unset] [.ref s.heap.size])) := c7.trans (by
    refine XS.istore X6.here hexec rfl (hb hbytes d12) rfl rfl ?_
    refine XS.iload X6.here hexec rfl (hb hbytes d14) rfl ?_
    refine XS.iloadN X6.here hexec rfl (hb hbytes d16) rfl ?_
    refine XS.icmpYes X6.here hexec rfl (pc0 := 17) rfl (hb hbytes d17) rfl (ii_eq_t rfl) (by decide) rfl ?_
    refine XS.aloadN X6.here hexec rfl (hb hbytes d57) rfl rfl ?_
    exact Steps.refl _)
  have X8 := X6.wide (L' := []) (cells' := 1) (slots' := len) (fun x hx hlt => by
    simp only [List.nil_append, copyLocs, List.mem_map, List.mem_range] at hx
    obtain ⟨i, -, rfl⟩ := hx
    exact absurd hlt (Nat.lt_irrefl _)) (Nat.le_refl _) (by omega)
  exact ⟨T6, some (.ref s.heap.size), _, _, _, X8, rfl, rfl, rfl, (fun h => by cases h), ⟨⟨rfl, B6, ba3.like (X3.warmed.alike.symm.trans X6.warmed.alike) p6.1 f6.1 f6.2.1 f6.2.2.1, f6.2.1.trans bv3, by rw [X6.warmed.alike.findClass, f6.1]; exact bf3, by rw [f6.2.2.1, bs3]; simp, fun j hj => by rw [f6.2.2.2 j, if_pos (by omega)]; rfl, kp3.put p6 (Nat.le_refl _)⟩, by rw [p6.2.2, bh3, hh0]; simp⟩, fun fs hl => c8.trans (X8.areturnOut hexec rfl hret rfl (hb hbytes d58) hl)⟩
end Cmp3
namespace CodL
def yN : MethodName := ⟨"java/lang/StringUTF16", "coderFromArrayLen", "([BI)B"⟩
abbrev yB : ByteArray := jdk_52_method_15_code
theorem d0 : decode yB 0 = .ok (.iload_n 1, 1) := by decide +kernel
theorem d1 : decode yB 1 = .ok (.aload_n 0, 1) := by decide +kernel
theorem d2 : decode yB 2 = .ok (.arraylength, 1) := by decide +kernel
theorem d3 : decode yB 3 = .ok (.isub, 1) := by decide +kernel
theorem d4 : decode yB 4 = .ok (.bipush 31, 2) := by decide +kernel
theorem d6 : decode yB 6 = .ok (.iushr, 1) := by decide +kernel
theorem d7 : decode yB 7 = .ok (.i2b, 1) := by decide +kernel
theorem d8 : decode yB 8 = .ok (.ireturn, 1) := by decide +kernel
def site : List Cond := []
def tab : Cond := tabOf yN yB 2 (some .byte) site
def P (d : Addr) (B : Cell) (args : Array Value) (s : State) : Prop := args = #[.ref d, .int (Int32.ofNat B.slots.size)] ∧ Arr .byte d B s
def E (r : Option Value) (s u : State) : Prop := XT.PureE (some (.int 0)) r s u
/-- an array as long as the number of chars: LATIN1 -/
theorem law (l : Launch) (d : Addr) (B : Cell) : Law l yN 2 2 0 0 yB 2 (some .byte) site (P d B) E [] 0 0 := by
  refine Law.of_walk (plainFor_of_name (by decide +kernel)) (by decide +kernel) (by decide +kernel) (by decide) (fun _ _ h => by rw [h.1]; rfl) (fun _ U U' hal hh h => ⟨h.1, h.2.mv hal hh⟩) (fun r U U' V V' h1 hal h2 h => XT.PureE.mv r U U' V V' h1 hal h2 h) ?_
  intro p e s m args below meth c s₁ X0 hexec hbytes hml hret hlk hnm hown hh0 W hP
  obtain ⟨rfl, hB⟩ := hP
  have hB0 := hB.mv X0.warmed.alike hh0
  have c1 : Steps p.tables e below (s₁.setTop (entryFrame m #[.ref d, .int (Int32.ofNat B.slots.size)] 2)) (s₁.setTop (mkF m 0 #[.val (.ref d), .val (.int (Int32.ofNat B.slots.size))] [])) := entry rfl
  have c2 : Steps p.tables e below (s₁.setTop (entryFrame m #[.ref d, .int (Int32.ofNat B.slots.size)] 2)) (s₁.setTop (mkF m 2 #[.val (.ref d), .val (.int (Int32.ofNat B.slots.size))] [.ref d, .int (Int32.ofNat B.slots.size)])) := c1.trans (by
    refine XS.iloadN X0.here hexec rfl (hb hbytes d0) rfl ?_
    refine XS.aloadN X0.here hexec rfl (hb hbytes d1) rfl rfl ?_
    exact Steps.refl _)
  have c3 : Steps p.tables e below (s₁.setTop (entryFrame m #[.ref d, .int (Int32.ofNat B.slots.size)] 2)) (s₁.setTop (mkF m 8 #[.val (.ref d), .val (.int (Int32.ofNat B.slots.size))] [.int (lo8 (ushr (Int32.ofNat B.slots.size - Int32.ofNat B.slots.size) 31))])) := c2.trans (by
    refine X0.alen hexec hB0 rfl rfl (hb hbytes d2) ?_
    refine XS.isub X0.here hexec rfl (hb hbytes d3) rfl ?_
    refine bipushV X0.here hexec rfl 31 (hb hbytes d4) (by decide) ?_
    refine iushr X0.here hexec rfl (hb hbytes d6) rfl ?_
    refine i2b X0.here hexec rfl (hb hbytes d7) rfl ?_
    exact Steps.refl _)
  have e0 : lo8 (ushr (Int32.ofNat B.slots.size - Int32.ofNat B.slots.size) 31) = 0 := by rw [Int32.sub_self]; decide
  rw [e0] at c3
  exact ⟨s₁, some (.int 0), _, _, _, X0, rfl, rfl, rfl, (fun h => by cases h), ⟨rfl, hh0⟩, fun fs hl => c3.trans (X0.ireturnOut hexec hret rfl (Or.inr (Or.inr (Or.inl rfl))) (hb hbytes d8) hl)⟩
end CodL
/-- the String at a is Latin-1 over a new byte[] (the heap's one new cell): the low bytes of the len chars of A from o on; every cell but a is kept -/
def Got (a : Addr) (D : Cell) (fV fC : Field) (A : Cell) (o len : Nat) (r : Option Value) (s u : State) : Prop := r = none ∧ ∃ D' V : Cell, Blank "java/lang/String" a D' u ∧ Same D D' [fV.slot, fC.slot] ∧ D'.slots[fV.slot]? = some (.ref s.heap.size) ∧ D'.slots[fC.slot]? = some (.int 0) ∧ Arr .byte s.heap.size V u ∧ V.vm = .none ∧ u.vm.findClass "[B" = some V.cls ∧ V.slots.size = len ∧ (∀ j, j < len → V.slots[j]? = some (.int (lo8 (cv A (o + j))))) ∧ (∀ (y : Addr) (c : Cell), y ≠ a → s.heap[y]? = some c → u.heap[y]? = some c) ∧ u.heap.size = s.heap.size + 1
theorem Got.mv {a : Addr} {D A : Cell} {fV fC : Field} {o len : Nat} : ∀ r (U U' V V' : State), U'.heap = U.heap → V.vm.Alike V'.vm → V'.heap = V.heap → Got a D fV fC A o len r U V → Got a D fV fC A o len r U' V' :=
  fun r U U' V V' h1 hal h2 ⟨e0, D', X, a1, a2, a3, a4, a5, a6, a7, a8, a9, a10, a11⟩ => ⟨e0, D', X, a1.mv hal h2, a2, by rw [h1]; exact a3, a4, by rw [h1]; exact a5.mv hal h2, a6, by rw [hal.findClass]; exact a7, a8, a9, by rw [h1, h2]; exact a10, by rw [h1, h2]; exact a11⟩
namespace New4
def yN : MethodName := ⟨"java/lang/String", "<init>", "([CIILjava/lang/Void;)V"⟩
abbrev yB : ByteArray := jdk_42_method_149_code
theorem d0 : decode yB 0 = .ok (.aload_n 0, 1) := by decide +kernel
theorem d1 : decode yB 1 = .ok (.invokespecial 1, 3) := by decide +kernel
theorem d4 : decode yB 4 = .ok (.iload_n 3, 1) := by decide +kernel
theorem d5 : decode yB 5 = .ok (.ifCond (.ne) 22, 3) := by decide +kernel
theorem d27 : decode yB 27 = .ok (.getstatic 38, 3) := by decide +kernel
theorem d30 : decode yB 30 = .ok (.ifCond (.eq) 28, 3) := by decide +kernel
theorem d33 : decode yB 33 = .ok (.aload_n 1, 1) := by decide +kernel
theorem d34 : decode yB 34 = .ok (.iload_n 2, 1) := by decide +kernel
theorem d35 : decode yB 35 = .ok (.iload_n 3, 1) := by decide +kernel
theorem d36 : decode yB 36 = .ok (.invokestatic 177, 3) := by decide +kernel
theorem d39 : decode yB 39 = .ok (.astore 5, 2) := by decide +kernel
theorem d41 : decode yB 41 = .ok (.aload_n 0, 1) := by decide +kernel
theorem d42 : decode yB 42 = .ok (.aload 5, 2) := by decide +kernel
theorem d44 : decode yB 44 = .ok (.iload_n 3, 1) := by decide +kernel
theorem d45 : decode yB 45 = .ok (.invokestatic 47, 3) := by decide +kernel
theorem d48 : decode yB 48 = .ok (.putfield 15, 3) := by decide +kernel
theorem d51 : decode yB 51 = .ok (.aload_n 0, 1) := by decide +kernel
theorem d52 : decode yB 52 = .ok (.aload 5, 2) := by decide +kernel
theorem d54 : decode yB 54 = .ok (.putfield 9, 3) := by decide +kernel
theorem d57 : decode yB 57 = .ok (.return_, 1) := by decide +kernel
def site : List Cond := [.fieldLink "java/lang/String" 38 "java/lang/String" "COMPACT_STRINGS" "Z", Cmp3.tab, CodL.tab, .laysFinal "java/lang/String" "java/lang/String" "value" "[B", .fieldLink "java/lang/String" 9 "java/lang/String" "value" "[B", .laysFinal "java/lang/String" "java/lang/String" "coder" "B", .fieldLink "java/lang/String" 15 "java/lang/String" "coder" "B"] ++ objW "java/lang/String" 1 ++ staticW "java/lang/String" 177 Cmp3.yN ++ staticW "java/lang/String" 47 CodL.yN
def tab : Cond := tabOf yN yB 6 none site
def P (a : Addr) (D : Cell) (fV fC : Field) (b : Addr) (A : Cell) (z : Int32) (o len : Nat) (args : Array Value) (s : State) : Prop := args = #[.ref a, .ref b, .int (Int32.ofNat o), .int (Int32.ofNat len), .null] ∧ Blank "java/lang/String" a D s ∧ Found "java/lang/String" "value" "[B" fV s ∧ Found "java/lang/String" "coder" "B" fC s ∧ Ch b A s ∧ StaticIs s "java/lang/String" "COMPACT_STRINGS" "Z" (.int z) ∧ ¬ z = 0 ∧ 0 < len ∧ o + len ≤ A.slots.size ∧ len ≤ 536870912 ∧ ∀ i, i < len → ¬ 255 < cv A (o + i)
def E (a : Addr) (D : Cell) (fV fC : Field) (A : Cell) (o len : Nat) (r : Option Value) (s u : State) : Prop := Got a D fV fC A o len r s u
/-- len > 0, no char of the range above 255: a Latin-1 String of their low bytes -/
theorem law (l : Launch) (a : Addr) (D : Cell) (fV fC : Field) (b : Addr) (A : Cell) (z : Int32) (o len : Nat) : Law l yN 5 4 2 35 yB 6 none site (P a D fV fC b A z o len) (E a D fV fC A o len) [⟨a, fC.slot⟩, ⟨a, fV.slot⟩] 1 len := by
  refine Law.of_walk (plainFor_of_name (by decide +kernel)) (by decide +kernel) (by decide +kernel) (by decide) (fun _ _ h => by rw [h.1]; rfl) (fun _ U U' hal hh h => ⟨h.1, h.2.1.mv hal hh, h.2.2.1.al hal, h.2.2.2.1.al hal, h.2.2.2.2.1.mv hal hh, h.2.2.2.2.2.1.there hal hh, h.2.2.2.2.2.2⟩) (fun r U U' V V' h1 hal h2 h => Got.mv r U U' V V' h1 hal h2 h) ?_
  intro p e s m args below meth c s₁ X0 hexec hbytes hml hret hlk hnm hown hh0 W hP
  obtain ⟨rfl, hB, f1, f2, hA, s1, hz, l0, l1, l2, hp⟩ := hP
  have a31 := hA.1.2.2.2
  have c1 : Steps p.tables e below (s₁.setTop (entryFrame m #[.ref a, .ref b, .int (Int32.ofNat o), .int (Int32.ofNat len), .null] 6)) (s₁.setTop (mkF m 0 #[.val (.ref a), .val (.ref b), .val (.int (Int32.ofNat o)), .val (.int (Int32.ofNat len)), .val .null, .unset] [])) := entry rfl
  have c2 : Steps p.tables e below (s₁.setTop (entryFrame m #[.ref a, .ref b, .int (Int32.ofNat o), .int (Int32.ofNat len), .null] 6)) (s₁.setTop (mkF m 1 #[.val (.ref a), .val (.ref b), .val (.int (Int32.ofNat o)), .val (.int (Int32.ofNat len)), .val .null, .unset] [.ref a])) := c1.trans (by
    refine XS.aloadN X0.here hexec rfl (hb hbytes d0) rfl rfl ?_
    exact Steps.refl _)
  obtain ⟨T3, X3, q3, st3⟩ := X0.oinit hexec hown (wks W (objW "java/lang/String" 1)) (g := (mkF m 1 #[.val (.ref a), .val (.ref b), .val (.int (Int32.ofNat o)), .val (.int (Int32.ofNat len)), .val .null, .unset] [.ref a])) rfl (by rw [hml]; rfl) (rest := []) rfl (hb hbytes d1) (W := 0) (by show 2 * 0 + 0 ≤ _; decide) (Nat.le_of_ble_eq_true rfl) (Nat.le_of_ble_eq_true rfl)
  have hh3 := q3.trans hh0
  have c4 : Steps p.tables e below (s₁.setTop (entryFrame m #[.ref a, .ref b, .int (Int32.ofNat o), .int (Int32.ofNat len), .null] 6)) (T3.setTop (mkF m 27 #[.val (.ref a), .val (.ref b), .val (.int (Int32.ofNat o)), .val (.int (Int32.ofNat len)), .val .null, .unset] [])) := (c2.trans (st3 _ (Steps.refl _))).trans (by
    refine XS.iloadN X3.here hexec rfl (hb hbytes d4) rfl ?_
    refine XS.ifYes X3.here hexec rfl (pc0 := 5) rfl (hb hbytes d5) rfl (i0_ne_t (nz32 (by omega) l0)) (by decide) rfl ?_
    exact Steps.refl _)
  obtain ⟨T5, X5, q5, st5⟩ := X3.sget hexec hown (wk W (.fieldLink "java/lang/String" 38 "java/lang/String" "COMPACT_STRINGS" "Z")) s1 (fun _ _ h => by rw [hh3]; exact h) (g := (mkF m 27 #[.val (.ref a), .val (.ref b), .val (.int (Int32.ofNat o)), .val (.int (Int32.ofNat len)), .val .null, .unset] [])) rfl (hb hbytes d27)
  have hh5 := q5.trans hh3
  have c6 : Steps p.tables e below (s₁.setTop (entryFrame m #[.ref a, .ref b, .int (Int32.ofNat o), .int (Int32.ofNat len), .null] 6)) (T5.setTop (mkF m 30 #[.val (.ref a), .val (.ref b), .val (.int (Int32.ofNat o)), .val (.int (Int32.ofNat len)), .val .null, .unset] [.int z])) := c4.trans (st5 _ (Steps.refl _))
  have c7 : Steps p.tables e below (s₁.setTop (entryFrame m #[.ref a, .ref b, .int (Int32.ofNat o), .int (Int32.ofNat len), .null] 6)) (T5.setTop (mkF m 36 #[.val (.ref a), .val (.ref b), .val (.int (Int32.ofNat o)), .val (.int (Int32.ofNat len)), .val .null, .unset] [.int (Int32.ofNat len), .int (Int32.ofNat o), .ref b])) := c6.trans (by
    refine XS.ifNo X5.here hexec rfl (hb hbytes d30) rfl (i0_eq_f hz) ?_
    refine XS.aloadN X5.here hexec rfl (hb hbytes d33) rfl rfl ?_
    refine XS.iloadN X5.here hexec rfl (hb hbytes d34) rfl ?_
    refine XS.iloadN X5.here hexec rfl (hb hbytes d35) rfl ?_
    exact Steps.refl _)
  obtain ⟨v8, T8, X8, E8, g8⟩ := X5.callS hexec (Cmp3.law l b A o len) hown (wks W (staticW "java/lang/String" 177 Cmp3.yN)) (wk W Cmp3.tab) (W := 0) (Nat.le_of_ble_eq_true rfl) (Nat.le_of_ble_eq_true rfl) (Nat.le_refl _) (by show 0 + len ≤ len; omega) (g := (mkF m 36 #[.val (.ref a), .val (.ref b), .val (.int (Int32.ofNat o)), .val (.int (Int32.ofNat len)), .val .null, .unset] [.int (Int32.ofNat len), .int (Int32.ofNat o), .ref b])) rfl (by rw [hml]; rfl) c7 (argsL := [.ref b, .int (Int32.ofNat o), .int (Int32.ofNat len)]) (rest := []) rfl rfl (by show 2 * 0 + 0 ≤ _; decide) (hb hbytes d36) (⟨rfl, hA.mv X5.warmed.alike hh5, l1, l2, hp⟩)
  obtain ⟨e8, z8⟩ := E8
  obtain ⟨rfl, N, n1, n2, n3, n4, n5, n6⟩ := NewArr.mv _ T5 s _ _ hh5.symm (Vm.Alike.refl _) rfl e8
  rw [hh5] at z8
  have hB1 := hB.keep X8.warmed.alike (n6 _ _ hB.1)
  have hne : s.heap.size ≠ a := (Nat.ne_of_lt (Array.getElem?_eq_some_iff.mp hB.1).1).symm
  have c9 : Steps p.tables e below (s₁.setTop (entryFrame m #[.ref a, .ref b, .int (Int32.ofNat o), .int (Int32.ofNat len), .null] 6)) (T8.setTop (mkF m 39 #[.val (.ref a), .val (.ref b), .val (.int (Int32.ofNat o)), .val (.int (Int32.ofNat len)), .val .null, .unset] [.ref s.heap.size])) := g8
  have c10 : Steps p.tables e below (s₁.setTop (entryFrame m #[.ref a, .ref b, .int (Int32.ofNat o), .int (Int32.ofNat len), .null] 6)) (T8.setTop (mkF m 45 #[.val (.ref a), .val (.ref b), .val (.int (Int32.ofNat o)), .val (.int (Int32.ofNat len)), .val .null, .val (.ref s.heap.size)] [.int (Int32.ofNat N.slots.size), .ref s.heap.size, .ref a])) := by
    have hc : Steps p.tables e below (s₁.setTop (entryFrame m #[.ref a, .ref b, .int (Int32.ofNat o), .int (Int32.ofNat len), .null] 6)) (T8.setTop (mkF m 45 #[.val (.ref a), .val (.ref b), .val (.int (Int32.ofNat o)), .val (.int (Int32.ofNat len)), .val .null, .val (.ref s.heap.size)] [.int (Int32.ofNat len), .ref s.heap.size, .ref a])) := c9.trans (by
      refine XS.astore X8.here hexec rfl (hb hbytes d39) rfl rfl rfl ?_
      refine XS.aloadN X8.here hexec rfl (hb hbytes d41) rfl rfl ?_
      refine XS.aload X8.here hexec rfl (hb hbytes d42) rfl rfl ?_
      refine XS.iloadN X8.here hexec rfl (hb hbytes d44) rfl ?_
      exact Steps.refl _)
    rw [n4]; exact hc
  obtain ⟨v11, T11, X11, E11, g11⟩ := X8.callS hexec (CodL.law l s.heap.size N) hown (wks W (staticW "java/lang/String" 47 CodL.yN)) (wk W CodL.tab) (W := 1) (Nat.le_of_ble_eq_true rfl) (Nat.le_of_ble_eq_true rfl) (Nat.le_refl _) (by show 0 + len + 0 ≤ len; omega) (g := (mkF m 45 #[.val (.ref a), .val (.ref b), .val (.int (Int32.ofNat o)), .val (.int (Int32.ofNat len)), .val .null, .val (.ref s.heap.size)] [.int (Int32.ofNat N.slots.size), .ref s.heap.size, .ref a])) rfl (by rw [hml]; rfl) c10 (argsL := [.ref s.heap.size, .int (Int32.ofNat N.slots.size)]) (rest := [.ref a]) rfl rfl (by show 2 * 0 + (1 + 0) ≤ _; decide) (hb hbytes d45) (⟨rfl, n1⟩)
  obtain ⟨rfl, q11⟩ := E11
  have hB11 := hB1.mv (X8.warmed.alike.symm.trans X11.warmed.alike) q11
  have c12 : Steps p.tables e below (s₁.setTop (entryFrame m #[.ref a, .ref b, .int (Int32.ofNat o), .int (Int32.ofNat len), .null] 6)) (T11.setTop (mkF m 48 #[.val (.ref a), .val (.ref b), .val (.int (Int32.ofNat o)), .val (.int (Int32.ofNat len)), .val .null, .val (.ref s.heap.size)] [.int 0, .ref a])) := g11
  obtain ⟨T13, X13, p13, bl13, sl13, st13⟩ := X11.finit hexec hown (wk W (.fieldLink "java/lang/String" 15 "java/lang/String" "coder" "B")) (Or.inr ⟨_, (wk W (.laysFinal "java/lang/String" "java/lang/String" "coder" "B"))⟩) (Or.inl ⟨rfl, hnm⟩) f2 (Or.inl rfl) hB11 (t := .byte) (by decide +kernel) rfl (g := (mkF m 48 #[.val (.ref a), .val (.ref b), .val (.int (Int32.ofNat o)), .val (.int (Int32.ofNat len)), .val .null, .val (.ref s.heap.size)] [.int 0, .ref a])) rfl (rest := []) rfl (hb hbytes d48)
  have c14 : Steps p.tables e below (s₁.setTop (entryFrame m #[.ref a, .ref b, .int (Int32.ofNat o), .int (Int32.ofNat len), .null] 6)) (T13.setTop (mkF m 54 #[.val (.ref a), .val (.ref b), .val (.int (Int32.ofNat o)), .val (.int (Int32.ofNat len)), .val .null, .val (.ref s.heap.size)] [.ref s.heap.size, .ref a])) := (c12.trans (st13 _ (Steps.refl _))).trans (by
    refine XS.aloadN X13.here hexec rfl (hb hbytes d51) rfl rfl ?_
    refine XS.aload X13.here hexec rfl (hb hbytes d52) rfl rfl ?_
    exact Steps.refl _)
  obtain ⟨T15, X15, p15, bl15, sl15, st15⟩ := X13.finit hexec hown (wk W (.fieldLink "java/lang/String" 9 "java/lang/String" "value" "[B")) (Or.inr ⟨_, (wk W (.laysFinal "java/lang/String" "java/lang/String" "value" "[B"))⟩) (Or.inl ⟨rfl, hnm⟩) f1 (Or.inl rfl) bl13 (t := (.array .byte)) (by decide +kernel) rfl (g := (mkF m 54 #[.val (.ref a), .val (.ref b), .val (.int (Int32.ofNat o)), .val (.int (Int32.ofNat len)), .val .null, .val (.ref s.heap.size)] [.ref s.heap.size, .ref a])) rfl (rest := []) rfl (hb hbytes d54)
  have c16 : Steps p.tables e below (s₁.setTop (entryFrame m #[.ref a, .ref b, .int (Int32.ofNat o), .int (Int32.ofNat len), .null] 6)) (T15.setTop (mkF m 57 #[.val (.ref a), .val (.ref b), .val (.int (Int32.ofNat o)), .val (.int (Int32.ofNat len)), .val .null, .val (.ref s.heap.size)] [])) := c14.trans (st15 _ (Steps.refl _))
  have ap := apart (Or.inr ⟨_, (wk W (.laysFinal "java/lang/String" "java/lang/String" "value" "[B"))⟩) (Or.inr ⟨_, (wk W (.laysFinal "java/lang/String" "java/lang/String" "coder" "B"))⟩) f1 f2 (t₁ := .array .byte) (t₂ := .byte) (by decide +kernel) (by decide +kernel) (by decide)
  have al := X8.warmed.alike.symm.trans X15.warmed.alike
  have n7 : T11.heap[s.heap.size]? = some N := by rw [q11]; exact n1.1
  exact ⟨T15, none, _, _, _, X15, by simp, rfl, by omega, (fun _ => rfl), ⟨rfl, _, N, bl15, ((Same.refl D _).set _ (by simp)).set _ (by simp), sl15, (Cell.slots_setSlot_ne _ ap).trans sl13, n1.keep al (p15.other hne (p13.other hne n7)), n2, by rw [al.findClass]; exact n3, n4, n5, fun y c h1 h2 => p15.other h1 (p13.other h1 (by rw [q11]; exact n6 y c h2)), by rw [p15.2.2, p13.2.2, q11]; exact z8⟩, fun fs hl => c16.trans (X15.returnOut hexec hret (hb hbytes d57) hl)⟩
end New4
namespace New1
def yN : MethodName := ⟨"java/lang/String", "<init>", "([C)V"⟩
abbrev yB : ByteArray := jdk_42_method_3_code
theorem d0 : decode yB 0 = .ok (.aload_n 0, 1) := by decide +kernel
theorem d1 : decode yB 1 = .ok (.aload_n 1, 1) := by decide +kernel
theorem d2 : decode yB 2 = .ok (.iconst 0, 1) := by decide +kernel
theorem d3 : decode yB 3 = .ok (.aload_n 1, 1) := by decide +kernel
theorem d4 : decode yB 4 = .ok (.arraylength, 1) := by decide +kernel
theorem d5 : decode yB 5 = .ok (.aconst_null, 1) := by decide +kernel
theorem d6 : decode yB 6 = .ok (.invokespecial 27, 3) := by decide +kernel
theorem d9 : decode yB 9 = .ok (.return_, 1) := by decide +kernel
def site : List Cond := [New4.tab] ++ initW "java/lang/String" 27 New4.yN
def tab : Cond := tabOf yN yB 2 none site
def P (a : Addr) (D : Cell) (fV fC : Field) (b : Addr) (A : Cell) (z : Int32) (args : Array Value) (s : State) : Prop := args = #[.ref a, .ref b] ∧ Blank "java/lang/String" a D s ∧ Found "java/lang/String" "value" "[B" fV s ∧ Found "java/lang/String" "coder" "B" fC s ∧ Ch b A s ∧ StaticIs s "java/lang/String" "COMPACT_STRINGS" "Z" (.int z) ∧ ¬ z = 0 ∧ 0 < A.slots.size ∧ A.slots.size ≤ 536870912 ∧ ∀ i, i < A.slots.size → ¬ 255 < cv A i
def E (a : Addr) (D : Cell) (fV fC : Field) (A : Cell) (r : Option Value) (s u : State) : Prop := Got a D fV fC A 0 A.slots.size r s u
/-- new String(chars), not empty, no char above 255: a Latin-1 String of their low bytes -/
theorem law (l : Launch) (a : Addr) (D : Cell) (fV fC : Field) (b : Addr) (A : Cell) (z : Int32) : Law l yN 2 1 3 52 yB 2 none site (P a D fV fC b A z) (E a D fV fC A) [⟨a, fC.slot⟩, ⟨a, fV.slot⟩] 1 A.slots.size := by
  refine Law.of_walk (plainFor_of_name (by decide +kernel)) (by decide +kernel) (by decide +kernel) (by decide) (fun _ _ h => by rw [h.1]; rfl) (fun _ U U' hal hh h => ⟨h.1, h.2.1.mv hal hh, h.2.2.1.al hal, h.2.2.2.1.al hal, h.2.2.2.2.1.mv hal hh, h.2.2.2.2.2.1.there hal hh, h.2.2.2.2.2.2⟩) (fun r U U' V V' h1 hal h2 h => Got.mv r U U' V V' h1 hal h2 h) ?_
  intro p e s m args below meth c s₁ X0 hexec hbytes hml hret hlk hnm hown hh0 W hP
  obtain ⟨rfl, hB, f1, f2, hA, s1, hz, l0, l2, hp⟩ := hP
  have c1 : Steps p.tables e below (s₁.setTop (entryFrame m #[.ref a, .ref b] 2)) (s₁.setTop (mkF m 0 #[.val (.ref a), .val (.ref b)] [])) := entry rfl
  have c2 : Steps p.tables e below (s₁.setTop (entryFrame m #[.ref a, .ref b] 2)) (s₁.setTop (mkF m 6 #[.val (.ref a), .val (.ref b)] [.null, .int (Int32.ofNat A.slots.size), .int 0, .ref b, .ref a])) := c1.trans (by
    refine XS.aloadN X0.here hexec rfl (hb hbytes d0) rfl rfl ?_
    refine XS.aloadN X0.here hexec rfl (hb hbytes d1) rfl rfl ?_
    refine iconstV X0.here hexec rfl 0 (hb hbytes d2) (by decide) ?_
    refine XS.aloadN X0.here hexec rfl (hb hbytes d3) rfl rfl ?_
    refine X0.alen hexec (hA.1.mv X0.warmed.alike hh0) rfl rfl (hb hbytes d4) ?_
    refine XS.aconstNull X0.here hexec rfl (hb hbytes d5) ?_
    exact Steps.refl _)
  obtain ⟨v3, T3, X3, E3, g3⟩ := X0.callN hexec (New4.law l a D fV fC b A z 0 A.slots.size) rfl hown (wks W (initW "java/lang/String" 27 New4.yN)) (W New4.tab (by simp only [site, List.mem_cons, List.mem_append, true_or, or_true])) (W := 0) (Nat.le_of_ble_eq_true rfl) (Nat.le_of_ble_eq_true rfl) (Nat.le_refl _) (by show 0 + A.slots.size ≤ A.slots.size; omega) (g := (mkF m 6 #[.val (.ref a), .val (.ref b)] [.null, .int (Int32.ofNat A.slots.size), .int (Int32.ofNat 0), .ref b, .ref a])) rfl (by rw [hml]; rfl) c2 (argsL := [.ref b, .int (Int32.ofNat 0), .int (Int32.ofNat A.slots.size), .null]) (rest := []) rfl rfl (by show 2 * 0 + 0 ≤ _; decide) (hb hbytes d6) (⟨rfl, hB.mv X0.warmed.alike hh0, f1.al X0.warmed.alike, f2.al X0.warmed.alike, hA.mv X0.warmed.alike hh0, s1.there X0.warmed.alike hh0, hz, l0, by omega, l2, fun i hi => by rw [Nat.zero_add]; exact hp i hi⟩)
  have e0 := Got.mv _ s₁ s _ _ hh0.symm (Vm.Alike.refl _) rfl E3
  obtain rfl := e0.1
  have c4 : Steps p.tables e below (s₁.setTop (entryFrame m #[.ref a, .ref b] 2)) (T3.setTop (mkF m 9 #[.val (.ref a), .val (.ref b)] [])) := g3
  exact ⟨T3, none, _, _, _, X3, by simp, rfl, by omega, (fun _ => rfl), e0, fun fs hl => c4.trans (X3.returnOut hexec hret (hb hbytes d9) hl)⟩
theorem pays {l : Launch} {R : Room} {p : Program} {e : Env} {below : List Frame} {s : State} {sargs : Array Value} {len W : Nat} (a : Addr) (D : Cell) (fV fC : Field) (b : Addr) (A : Cell) (z : Int32) (htab : tab.before sargs s = true) (hfr : 4 ≤ R.frames) (hlo : W + 65 ≤ R.locals) :
    Back l R p e below s sargs yN len W (fun A₁ a₁ => A₁.cells + 1 ≤ R.cells ∧ A₁.slots + A.slots.size ≤ R.slots ∧ P a D fV fC b A z a₁ A₁.U) (fun A₁ _ v₁ B₁ => E a D fV fC A v₁ A₁.U B₁.U ∧ B₁.locs = A₁.locs ++ [⟨a, fC.slot⟩, ⟨a, fV.slot⟩] ∧ B₁.cells = A₁.cells + 1 ∧ B₁.slots = A₁.slots + A.slots.size) :=
  (law l a D fV fC b A z).pays htab hfr (by omega)
end New1
/-- the byte, read back as charAt reads it, is the char -/
theorem lo8_mask {x : Int32} (h0 : ¬ x < 0) (h1 : ¬ 255 < x) : lo8 x &&& 255 = x := by
  have t : ∀ k : Fin 256, lo8 (Int32.ofNat k.val) &&& 255 = Int32.ofNat k.val := by decide +kernel
  rw [Int32.lt_iff_toInt_lt] at h0 h1
  have e0 : (0 : Int32).toInt = 0 := rfl
  have e1 : (255 : Int32).toInt = 255 := rfl
  obtain ⟨k, hk⟩ : ∃ k : Nat, x.toInt = k := ⟨x.toInt.toNat, by omega⟩
  have hx : x = Int32.ofNat k := Int32.toInt_inj.mp (by rw [hk, Int32.toInt_ofNat_small (by omega)])
  rw [hx]
  exact t ⟨k, by omega⟩
end StrChars
namespace StrChars.Road
open Jvm Sem ClassFile Op Lib Jvm.Stand Jvm.Free Jvm.Free.XT
open Jvm.Lib.Cold (StaticIs)
abbrev ST : String := "java/lang/String"
/-- every table word that New1's law asks, flat -/
abbrev words : List Jvm.Cond := [.code New1.yN New1.yB 2 none, .initialized ST, .methodLink ST 27 New4.yN, .instanceMethod New4.yN,
  .code New4.yN New4.yB 6 none, .fieldLink ST 38 ST "COMPACT_STRINGS" "Z", .laysFinal ST ST "value" "[B", .fieldLink ST 9 ST "value" "[B", .laysFinal ST ST "coder" "B", .fieldLink ST 15 ST "coder" "B",
  .methodLink ST 1 Lib.objectInit, .instanceMethod Lib.objectInit, .code Lib.objectInit ⟨#[0xb1]⟩ 1 none, .methodLink ST 177 Cmp3.yN, .static Cmp3.yN, .methodLink ST 47 CodL.yN, .static CodL.yN,
  .code Cmp3.yN Cmp3.yB 6 (some (.array .byte)), .initialized U16, .arrayClass .byte, .methodLink U16 115 Cmp5.yN, .static Cmp5.yN, .code Cmp5.yN Cmp5.yB 7 (some .int), .code CodL.yN CodL.yB 2 (some .byte)]
theorem tab_of {a : Array Value} {s : State} (h : ∀ w ∈ words, w.before a s = true) : New1.tab.before a s = true := by
  have h5 : Cmp5.tab.before a s = true := unparts (wk h (.code Cmp5.yN Cmp5.yB 7 (some .int))) (wks h (.initialized Cmp5.yN.cls :: Cmp5.site))
  have hc : CodL.tab.before a s = true := unparts (wk h (.code CodL.yN CodL.yB 2 (some .byte))) (wks h (.initialized CodL.yN.cls :: CodL.site))
  have q5 : ∀ w ∈ Cmp5.tab :: words, w.before a s = true := fun w hw => (List.mem_cons.mp hw).elim (fun e => e ▸ h5) (h w)
  have h3 : Cmp3.tab.before a s = true := unparts (wk q5 (.code Cmp3.yN Cmp3.yB 6 (some (.array .byte)))) (wks q5 (.initialized Cmp3.yN.cls :: Cmp3.site))
  have q3 : ∀ w ∈ Cmp3.tab :: CodL.tab :: words, w.before a s = true := fun w hw => (List.mem_cons.mp hw).elim (fun e => e ▸ h3) fun hw => (List.mem_cons.mp hw).elim (fun e => e ▸ hc) (h w)
  have h4 : New4.tab.before a s = true := unparts (wk q3 (.code New4.yN New4.yB 6 none)) (wks q3 (.initialized New4.yN.cls :: New4.site))
  have q4 : ∀ w ∈ New4.tab :: words, w.before a s = true := fun w hw => (List.mem_cons.mp hw).elim (fun e => e ▸ h4) (h w)
  exact unparts (wk q4 (.code New1.yN New1.yB 2 none)) (wks q4 (.initialized New1.yN.cls :: New1.site))
/-- the words ride from the start Z to the walk's own state -/
theorem moved {Z s : State} {a0 args : Array Value} (hZ : Z.Warmed39 s.vm) (hw : ∀ d ∈ words, d.before a0 Z = true) : ∀ d ∈ words, d.before args s = true := fun d hd => by
  have q := hw d hd
  have t : ∀ d ∈ words, d = .arrayClass .byte ∨ (d.onTables && d.keepsFace) = true := by decide +kernel
  rcases t d hd with rfl | t
  · exact RoadKit.mvA hZ q
  · exact RoadKit.mv hZ q t
/-- WHAT COMES BACK, over the tables of the start Z: h the heap at the call, h' behind it -/
def Q (Z : State) (x : Addr) (A : Cell) (h : Heap) (v : Option Value) (h' : Heap) (L : List Loc) : Prop := v = none ∧ (∀ y ∈ L, y.base = x) ∧ RoadKit.Keep h h' [x] ∧ h'.size = h.size + 1 ∧ RoadKit.Exa Z h' x ST ∧ RoadKit.Fld Z h' x ST "value" "[B" (.ref h.size) ∧ RoadKit.Fld Z h' x ST "coder" "B" (.int 0) ∧
  (∃ V : Cell, RoadKit.Arr Z h' h.size V .byte ∧ V.vm = .none ∧ Z.vm.findClass "[B" = some V.cls ∧ V.slots.size = A.slots.size ∧ ∀ j, j < A.slots.size → V.slots[j]? = some (.int (lo8 (cv A j)))) ∧
  ∀ (O n d : String) (w : Value), RoadKit.Fld Z h x O n d w → RoadKit.slotOf Z O n d ≠ RoadKit.slotOf Z ST "value" "[B" → RoadKit.slotOf Z O n d ≠ RoadKit.slotOf Z ST "coder" "B" → RoadKit.Fld Z h' x O n d w
/-- **new String(chars) AT A CALL, IN THE ROAD'S FORM**: for specialBack behind newO: x the fresh String, b the char[] with the cell A -/
theorem back {p : Program} {l : Launch} {e : Env} {R : Room} {s : State} {args : Array Value} {below : List Frame} {len W : Nat} {Z : State} {a0 : Array Value} {h : Heap} (hZ : Z.Warmed39 s.vm) (hw : ∀ d ∈ words, d.before a0 Z = true) {kI : Nat} (wi : (Jvm.Cond.instantiable ST kI).before a0 Z = true)
    {x b : Addr} {A : Cell} {z : Int32} {v0 c0 : Value} (E : RoadKit.Exa Z h x ST) (V : RoadKit.Fld Z h x ST "value" "[B" v0) (C : RoadKit.Fld Z h x ST "coder" "B" c0) (K : RoadKit.Arr Z h b A .char) (hty : Typed .char A) (S : RoadKit.Sta Z h ST "COMPACT_STRINGS" "Z" (.int z)) (hz : ¬ z = 0)
    (l0 : 0 < A.slots.size) (l2 : A.slots.size ≤ 536870912) (hp : ∀ i, i < A.slots.size → ¬ 255 < cv A i) (hfr : 4 ≤ R.frames) (hlo : W + 65 ≤ R.locals) :
    Back l R p e below s args New1.yN len W (fun P a => a = #[.ref x, .ref b] ∧ P.U.heap = h ∧ P.cells + 1 ≤ R.cells ∧ P.slots + A.slots.size ≤ R.slots)
      (fun P _ v B => ∃ L, Q Z x A h v B.U.heap L ∧ B.locs = P.locs ++ L ∧ B.cells = P.cells + 1 ∧ B.slots = P.slots + A.slots.size) := by
  intro m meth c P g ig mk a X hg hsize hdg hW hn hp'
  obtain ⟨rfl, rfl, r1, r2⟩ := hp'
  have al : Z.vm.Alike P.U.vm := hZ.alike.trans X.warmed.alike
  obtain ⟨D, cfV, kV, iV, fV, hD, gV, stV, knV, obV, asV, slV⟩ := id V
  obtain ⟨D', cfC, kC, iC, fC, hD', gC, stC, -, -, asC, slC⟩ := id C
  cases hD.symm.trans hD'
  obtain ⟨D2, kD, e1, e2, e3, e4, e5⟩ := id E
  cases hD.symm.trans e1
  obtain ⟨c2, k2, i1, i2, i3, -⟩ := Cond.instantiable_spec wi
  cases e2.symm.trans i1
  cases e3.symm.trans i2
  obtain ⟨kU, u1, u2⟩ := al.2.2 _ _ e3
  have hB : Blank ST x D P.U := ⟨hD, ⟨knV, fun q hq => by rw [hq] at obV; cases obV⟩, by rw [al.findClass]; exact e2, kU, u1, by rw [u2]; exact i3, by rw [u2]; exact e5 i3⟩
  have F1 : Found ST "value" "[B" fV P.U := ⟨SBG.found_only al ⟨cfV, kV, iV, gV⟩, stV⟩
  have F2 : Found ST "coder" "B" fC P.U := ⟨SBG.found_only al ⟨cfC, kC, iC, gC⟩, stC⟩
  have hA : Ch b A P.U := ⟨⟨K.1, State.isArrayOf_alike al K.2.1, K.2.2, by omega⟩, hty⟩
  have hS : StaticIs P.U ST "COMPACT_STRINGS" "Z" (.int z) := by
    obtain ⟨cfS, iS, kS, fS, st, cS, t1, t2, t3, t4, t5, t6, t7⟩ := S
    exact StaticIs.there (s := { Z with heap := P.U.heap }) ⟨cfS, iS, kS, fS, st, cS, t1, t2, t3, t4, t5, (fun q => by rw [q] at t6; cases t6), t7⟩ al rfl
  obtain ⟨v, B, X', ⟨⟨hv, E', V', q1, q2, q3, q4, q5, q6, q7, q8, q9, q10, q11⟩, hl, hc, hs⟩, st⟩ := New1.pays x D fV fC b A z (tab_of (moved hZ hw)) hfr hlo m meth c P g ig mk _ X hg hsize hdg hW hn ⟨r1, r2, rfl, hB, F1, F2, hA, hS, hz, l0, l2, hp⟩
  have al' : Z.vm.Alike B.U.vm := hZ.alike.trans X'.warmed.alike
  have hsz : E'.slots.size = D.slots.size := by
    obtain ⟨-, -, -, kB, w1, w2, w3⟩ := q1
    obtain ⟨kB', y1, y2⟩ := al'.2.2 _ _ e3
    rw [q2.2.1] at w1
    cases w1.symm.trans y1
    rw [w3, e5 i3, y2]
  refine ⟨v, B, X', ⟨_, ⟨hv, ?_, ⟨by omega, fun y cy hy hn' => q10 y cy (by simpa using hn') hy, fun y cy hy => ?_⟩, q11, ⟨E', _, q1.1, by rw [q2.2.1]; exact e2, by rw [q2.2.1]; exact e3, by rw [q2.1]; exact obV, fun _ => by rw [hsz]; exact e5 i3⟩,
    ⟨E', cfV, kV, iV, fV, q1.1, gV, stV, by rw [q2.1]; exact knV, by rw [q2.1]; exact obV, by rw [q2.2.1]; exact asV, q3⟩, ⟨E', cfC, kC, iC, fC, q1.1, gC, stC, by rw [q2.1]; exact knV, by rw [q2.1]; exact obV, by rw [q2.2.1]; exact asC, q4⟩,
    ⟨V', ⟨q5.1, State.isArrayOf_alike al'.symm q5.2.1, q5.2.2.1⟩, q6, by rw [← al'.findClass]; exact q7, q8, fun j hj => by have := q9 j hj; rwa [Nat.zero_add] at this⟩, fun O n d w F n1 n2 => ?_⟩, hl, hc, hs⟩, st⟩
  · intro y hy
    simp only [List.mem_cons, List.not_mem_nil, or_false] at hy
    rcases hy with rfl | rfl <;> rfl
  · by_cases q : y = x
    · subst q
      cases hD.symm.trans hy
      exact ⟨E', q1.1, q2.2.1, q2.1, hsz⟩
    · exact ⟨cy, q10 y cy q hy, rfl, rfl, rfl⟩
  · obtain ⟨D3, cf, k, i, f, g1, g2, g3, g4, g5, g6, g7⟩ := F
    cases hD.symm.trans g1
    simp only [RoadKit.slotOf, g2, gV, gC, Option.map_some, Option.getD_some] at n1 n2
    exact ⟨E', cf, k, i, f, q1.1, g2, g3, by rw [q2.1]; exact g4, by rw [q2.1]; exact g5, by rw [q2.2.1]; exact g6, by rw [q2.2.2 f.slot (by simp [n1, n2])]; exact g7⟩
end StrChars.Road
namespace StrChars.Road
open Jvm Sem ClassFile Op Lib Jvm.Stand Jvm.Free Jvm.Free.XT
/-- WHAT COMES BACK, the byte[] as a list of values -/
def QA (Z : State) (x : Addr) (zn : Int32) (cs : List Int32) (h : Heap) (v : Option Value) (h' : Heap) (L : List Loc) : Prop := v = none ∧ (∀ y ∈ L, y.base = x) ∧ RoadKit.Keep h h' [x] ∧ h'.size = h.size + 1 ∧ RoadKit.Exa Z h' x ST ∧ RoadKit.Fld Z h' x ST "value" "[B" (.ref h.size) ∧ RoadKit.Fld Z h' x ST "coder" "B" (.int 0) ∧
  (∃ kb, Z.vm.findClass "[B" = some kb ∧ RoadKit.Arv Z h' h.size kb .byte zn (cs.map fun c => .int (lo8 c)) (.int 0)) ∧
  ∀ (O n d : String) (w : Value), RoadKit.Fld Z h x O n d w → RoadKit.slotOf Z O n d ≠ RoadKit.slotOf Z ST "value" "[B" → RoadKit.slotOf Z O n d ≠ RoadKit.slotOf Z ST "coder" "B" → RoadKit.Fld Z h' x O n d w
/-- **new String(chars) AT A CALL, THE ARRAYS AS LISTS**: the char[] at b holds cs, not empty, no char above 255 -/
theorem backArv {p : Program} {l : Launch} {e : Env} {R : Room} {s : State} {args : Array Value} {below : List Frame} {len W : Nat} {Z : State} {a0 : Array Value} {h : Heap} (hZ : Z.Warmed39 s.vm) (hw : ∀ d ∈ words, d.before a0 Z = true) {kI : Nat} (wi : (Jvm.Cond.instantiable ST kI).before a0 Z = true)
    {x b : Addr} {k : ClassId} {zn z : Int32} {cs : List Int32} {dv v0 c0 : Value} (E : RoadKit.Exa Z h x ST) (V : RoadKit.Fld Z h x ST "value" "[B" v0) (C : RoadKit.Fld Z h x ST "coder" "B" c0) (K : RoadKit.Arv Z h b k .char zn (cs.map Value.int) dv) (S : RoadKit.Sta Z h ST "COMPACT_STRINGS" "Z" (.int z)) (hz : ¬ z = 0)
    (hlen : zn.toNatClampNeg = cs.length) (h0 : 0 < cs.length) (hbig : cs.length ≤ 536870912) (hall : ∀ c ∈ cs, ¬ 255 < c) (hfr : 4 ≤ R.frames) (hlo : W + 65 ≤ R.locals) :
    Back l R p e below s args New1.yN len W (fun P a => a = #[.ref x, .ref b] ∧ P.U.heap = h ∧ P.cells + 1 ≤ R.cells ∧ P.slots + cs.length ≤ R.slots)
      (fun P _ v B => ∃ L, QA Z x zn cs h v B.U.heap L ∧ B.locs = P.locs ++ L ∧ B.cells = P.cells + 1 ∧ B.slots = P.slots + cs.length) := by
  obtain ⟨A, K1, K2, K3, K4, K5, K6⟩ := K
  have e : A.slots.size = cs.length := K3.trans hlen
  have hat : ∀ (i : Nat) (hi : i < cs.length), A.slots[i]? = some (.int cs[i]) := fun i hi => by rw [K5 i (by omega)]; simp [List.getD_eq_getElem?_getD, hi]
  have hcv : ∀ (i : Nat) (hi : i < cs.length), cv A i = cs[i] := fun i hi => by unfold cv; rw [hat i hi]
  have hty : Typed .char A := fun i v hv => by
    have hi : i < A.slots.size := (Array.getElem?_eq_some_iff.mp hv).1
    have q := K5 i hi
    rw [hv] at q
    rw [Option.some.inj q]
    exact K6 i hi
  refine Back.mono (back hZ hw wi E V C K1 hty S hz (by omega) (by omega) (fun i hi => by rw [hcv i (by omega)]; exact hall _ (List.getElem_mem _)) hfr hlo) (fun P a hp => ⟨hp.1, hp.2.1, hp.2.2.1, by rw [e]; exact hp.2.2.2⟩) (fun P a v B hp hq => ?_)
  obtain ⟨L, ⟨q1, q2, q3, q4, q5, q6, q7, ⟨V', v1, v2, v3, v4, v5⟩, q9⟩, hl, hc, hs⟩ := hq
  refine ⟨L, ⟨q1, q2, q3, q4, q5, q6, q7, ⟨V'.cls, v3, V', v1, rfl, by rw [v4, e, hlen], K4, fun i hi => ?_, fun i hi => ?_⟩, q9⟩, hl, hc, by rw [hs, e]⟩
  · have hi' : i < cs.length := by omega
    rw [v5 i (by omega), hcv i hi']; simp [List.getD_eq_getElem?_getD, hi']
  · have hi' : i < cs.length := by omega
    simp only [List.getD_eq_getElem?_getD, List.getElem?_map, List.getElem?_eq_getElem hi', Option.map_some, Option.getD_some]
    exact fits_lo8 _
end StrChars.Road
namespace StrChars.Road
open Jvm Sem ClassFile Op Lib Jvm.Stand Jvm.Free Jvm.Free.XT
/-- WHAT COMES BACK, in the writer's own shape -/
def QV (Z : State) (x : Addr) (N : Int32) (bs : List Int32) (h : Heap) (n0 : Nat) (v : Option Value) (h' : Heap) (L : List Loc) : Prop := v = none ∧ RoadKit.Fr n0 L ∧ RoadKit.Keep h h' [x] ∧ RoadKit.Exa Z h' x ST ∧ RoadKit.Fld Z h' x ST "coder" "B" (.int 0) ∧
  ∃ (t : Addr) (kb : ClassId), n0 ≤ t ∧ h.size ≤ t ∧ ¬ t = x ∧ RoadKit.Fld Z h' x ST "value" "[B" (.ref t) ∧ RoadKit.Arv Z h' t kb .byte N (bs.map Value.int) (.int 0)
/-- **new String(chars) AT A CALL, FOR THE WRITER**: a char[] of n known ints, each 0 to 255 -/
theorem backV {p : Program} {l : Launch} {e : Env} {R : Room} {s : State} {args : Array Value} {below : List Frame} {len W : Nat} {Z : State} {a0 : Array Value} {h : Heap} (hZ : Z.Warmed39 s.vm) (hw : ∀ d ∈ words, d.before a0 Z = true) {kI : Nat} (wi : (Jvm.Cond.instantiable ST kI).before a0 Z = true)
    {x b : Addr} {kC : ClassId} {cs bs : List Int32} {d v0 c0 : Value} {z N : Int32} {n n0 : Nat} (hx0 : n0 ≤ x) (hh0 : n0 ≤ h.size) (E : RoadKit.Exa Z h x ST) (V : RoadKit.Fld Z h x ST "value" "[B" v0) (C : RoadKit.Fld Z h x ST "coder" "B" c0) (K : RoadKit.Arv Z h b kC .char N (cs.map Value.int) d) (S : RoadKit.Sta Z h ST "COMPACT_STRINGS" "Z" (.int z)) (hz : ¬ z = 0)
    (hn : cs.length = n) (hN : N = Int32.ofNat n) (l0 : 0 < n) (l2 : n ≤ 4000) (hp : ∀ c ∈ cs, ¬ c < 0 ∧ ¬ (255 : Int32) < c) (hb : bs = cs.map (fun c => c.toInt8.toInt32)) (hfr : 4 ≤ R.frames) (hlo : W + 65 ≤ R.locals) :
    Back l R p e below s args (⟨"java/lang/String", "<init>", "([C)V"⟩ : MethodName) len W (fun P a => a = #[.ref x, .ref b] ∧ P.U.heap = h ∧ P.cells + 1 ≤ R.cells ∧ P.slots + n ≤ R.slots)
      (fun P _ v B => ∃ L, QV Z x N bs h n0 v B.U.heap L ∧ B.locs = P.locs ++ L ∧ B.cells = P.cells + 1 ∧ B.slots = P.slots + n) := by
  subst hn hN hb
  refine Back.mono (backArv hZ hw wi E V C K S hz (n32 (by omega)) l0 (by omega) (fun c hc => (hp c hc).2) hfr hlo) (fun P a hp => hp) (fun P a v B hp hq => ?_)
  obtain ⟨L, ⟨q1, q2, q3, q4, q5, q6, q7, ⟨kb, v1, v2⟩, q9⟩, hl, hc, hs⟩ := hq
  exact ⟨L, ⟨q1, fun y hy => by rw [q2 y hy]; exact hx0, q3, q5, q7, h.size, kb, hh0, Nat.le_refl _, Nat.ne_of_gt E.lt, q6, by rw [List.map_map]; exact v2⟩, hl, hc, hs⟩
end StrChars.Road
namespace StrChars
open Jvm Sem ClassFile Op Lib Jvm.Stand Jvm.Free.XT Jvm.Free.ALB Jvm.Free.JM Jvm.Free
open Jvm.Lib.Cold (StaticIs)
def hi8 (x : Int32) : Int32 := lo8 (x >>> ((8 : Int32) &&& 31))
/-- what StringUTF16.getChar makes of two bytes -/
def pairCh (u v : Int32) : Int32 := (((u &&& 255) <<< ((0 : Int32) &&& 31)) ||| ((v &&& 255) <<< ((8 : Int32) &&& 31))).toUInt32.toUInt16.toUInt32.toInt32
theorem lo8_and (x : Int32) : (lo8 x &&& 255).toBitVec.toNat = x.toBitVec.toNat % 256 := by
  have h : (lo8 x).toBitVec = (x.toBitVec.signExtend 8).signExtend 32 := by rw [lo8, Int8.toBitVec_toInt32, Int32.toBitVec_toInt8]
  rw [Int32.toBitVec_and, BitVec.toNat_and, h]
  have e : ((x.toBitVec.signExtend 8).signExtend 32).toNat % 256 = x.toBitVec.toNat % 256 := by
    rw [BitVec.toNat_signExtend]
    have hlt := x.toBitVec.isLt
    simp only [BitVec.toNat_setWidth, BitVec.toNat_signExtend]
    split <;> split <;> omega
  rw [← e]
  exact Nat.and_two_pow_sub_one_eq_mod _ 8
theorem pair_says {c : Int32} (h0 : ¬ c < 0) (h1 : ¬ 65535 < c) : pairCh (lo8 c) (hi8 c) = c := by
  rw [Int32.lt_iff_toInt_lt] at h0 h1
  have e0 : (0 : Int32).toInt = 0 := rfl
  have e1 : (65535 : Int32).toInt = 65535 := rfl
  have hc : c.toInt = c.toBitVec.toNat := by
    have := c.toBitVec.isLt
    have e : c.toInt = c.toBitVec.toInt := rfl
    rw [e] at h0 h1
    rw [e]
    rw [BitVec.toInt_eq_toNat_cond] at h0 h1 ⊢
    split at h0 <;> split <;> omega
  have hn : c.toBitVec.toNat < 65536 := by omega
  have a1 := lo8_and c
  have a2 : (hi8 c &&& 255).toBitVec.toNat = c.toBitVec.toNat / 256 := by
    rw [hi8, lo8_and]
    have e : ((8 : Int32) &&& 31) = 8 := by decide
    rw [e, Int32.toBitVec_shiftRight]
    have e2 : ((8 : Int32).toBitVec.smod 32) = 8#32 := by decide
    rw [e2, BitVec.sshiftRight_eq', BitVec.toNat_sshiftRight_of_msb_false (by rw [BitVec.msb_eq_false_iff_two_mul_lt]; omega)]
    show c.toBitVec.toNat >>> 8 % 256 = _
    rw [Nat.shiftRight_eq_div_pow]
    omega
  unfold pairCh
  apply Int32.toBitVec_inj.mp
  apply BitVec.eq_of_toNat_eq
  have f0 : ((0 : Int32) &&& 31) = 0 := by decide
  have f8 : ((8 : Int32) &&& 31) = 8 := by decide
  rw [f0, f8]
  have g : (((lo8 c &&& 255) <<< (0 : Int32)) ||| ((hi8 c &&& 255) <<< (8 : Int32))).toBitVec.toNat = c.toBitVec.toNat := by
    rw [Int32.toBitVec_or, Int32.toBitVec_shiftLeft, Int32.toBitVec_shiftLeft]
    have s0 : ((0 : Int32).toBitVec.smod 32) = 0#32 := by decide
    have s8 : ((8 : Int32).toBitVec.smod 32) = 8#32 := by decide
    rw [s0, s8, BitVec.toNat_or]
    simp only [BitVec.shiftLeft_eq', BitVec.toNat_shiftLeft, a1, a2]
    show (c.toBitVec.toNat % 256) <<< 0 % 2 ^ 32 ||| (c.toBitVec.toNat / 256) <<< 8 % 2 ^ 32 = _
    rw [Nat.shiftLeft_zero, Nat.mod_eq_of_lt (show c.toBitVec.toNat % 256 < 2 ^ 32 by omega), Nat.mod_eq_of_lt (show (c.toBitVec.toNat / 256) <<< 8 < 2 ^ 32 by rw [Nat.shiftLeft_eq]; omega), Nat.or_comm, ← Nat.shiftLeft_add_eq_or_of_lt (by omega), Nat.shiftLeft_eq]
    omega
  show BitVec.toNat (((((lo8 c &&& 255) <<< (0 : Int32)) ||| ((hi8 c &&& 255) <<< (8 : Int32))).toBitVec.setWidth 16).setWidth 32) = _
  rw [BitVec.toNat_setWidth, BitVec.toNat_setWidth, g]
  omega
end StrChars
namespace StrChars
open Jvm Sem ClassFile Op Lib Jvm.Stand Jvm.Free.XT Jvm.Free.ALB Jvm.Free.JM Jvm.Free
open Jvm.Lib.Cold (StaticIs)
/-- the array's cell V codes the n chars f 0 .. f (n - 1) by the coder cd, as the JDK does: coder 1 just where some char is above 255 -/
def Cod (cd : Int32) (n : Nat) (f : Nat → Int32) (V : Cell) : Prop := (cd = 0 ∧ V.slots.size = n ∧ ∀ j, j < n → V.slots[j]? = some (.int (lo8 (f j))) ∧ ¬ 255 < f j) ∨ (cd = 1 ∧ V.slots.size = 2 * n ∧ (∀ j, j < n → V.slots[2 * j]? = some (.int (lo8 (f j))) ∧ V.slots[2 * j + 1]? = some (.int (hi8 (f j)))) ∧ ∃ j, j < n ∧ 255 < f j)
/-- **x is a String of the n chars f 0 .. f (n - 1)**, Latin-1 or UTF-16; its array at t has the cell V -/
def Txt (x t : Addr) (V : Cell) (cd : Int32) (n : Nat) (f : Nat → Int32) (U : State) : Prop := Exact "java/lang/String" x U ∧ Has x "java/lang/String" "value" "[B" (.ref t) U ∧ Has x "java/lang/String" "coder" "B" (.int cd) U ∧ XT.Arr .byte t V U ∧ Cod cd n f V ∧ ∀ j, j < n → ¬ f j < 0 ∧ ¬ 65535 < f j
theorem Txt.mv {x t : Addr} {V : Cell} {cd : Int32} {n : Nat} {f : Nat → Int32} {U U' : State} (h : Txt x t V cd n f U) (hal : U.vm.Alike U'.vm) (hh : U'.heap = U.heap) : Txt x t V cd n f U' := ⟨h.1.mv hal hh, h.2.1.mv hal hh, h.2.2.1.mv hal hh, h.2.2.2.1.mv hal hh, h.2.2.2.2⟩
end StrChars
namespace StrChars.Road
open Jvm Sem ClassFile Op Lib Jvm.Stand Jvm.Free Jvm.Free.XT
open Jvm.Lib.Cold (StaticIs)
theorem consq {a : Array Value} {s : State} {c : Jvm.Cond} {L : List Jvm.Cond} (h0 : c.before a s = true) (h : ∀ w ∈ L, w.before a s = true) : ∀ w ∈ c :: L, w.before a s = true := fun w hw => (List.mem_cons.mp hw).elim (fun e => e ▸ h0) (h w)
/-- the bytes of the chars cs, low before high -/
def wideBytes : List Int32 → List Value
  | [] => []
  | c :: cs => .int (lo8 c) :: .int (hi8 c) :: wideBytes cs
theorem wide_lo (d : Value) : ∀ (cs : List Int32) (j : Nat), j < cs.length → (wideBytes cs).getD (2 * j) d = .int (lo8 (cs.getD j 0))
  | [], j, h => absurd h (Nat.not_lt_zero j)
  | c :: cs, 0, _ => rfl
  | c :: cs, j + 1, h => by
    have q := wide_lo d cs j (by simpa using h)
    rw [show 2 * (j + 1) = 2 * j + 1 + 1 from by omega]
    simpa [wideBytes] using q
theorem wide_hi (d : Value) : ∀ (cs : List Int32) (j : Nat), j < cs.length → (wideBytes cs).getD (2 * j + 1) d = .int (hi8 (cs.getD j 0))
  | [], j, h => absurd h (Nat.not_lt_zero j)
  | c :: cs, 0, _ => rfl
  | c :: cs, j + 1, h => by
    have q := wide_hi d cs j (by simpa using h)
    rw [show 2 * (j + 1) + 1 = 2 * j + 1 + 1 + 1 from by omega]
    simpa [wideBytes] using q
theorem low_at (d : Value) (cs : List Int32) (j : Nat) (h : j < cs.length) : (cs.map fun c => Value.int (lo8 c)).getD j d = .int (lo8 (cs.getD j 0)) := by
  simp [List.getD_eq_getElem?_getD, h]
/-- an array of N2 bytes vs codes the chars cs by the coder cd -/
def CodA (cs : List Int32) (cd N2 : Int32) (vs : List Value) : Prop := (cd = 0 ∧ N2 = Int32.ofNat cs.length ∧ vs = (cs.map fun c => Value.int (lo8 c)) ∧ ∀ c ∈ cs, ¬ 255 < c) ∨ (cd = 1 ∧ N2 = Int32.ofNat (2 * cs.length) ∧ vs = wideBytes cs ∧ ∃ c ∈ cs, 255 < c)
theorem CodA.cod {cs : List Int32} {cd N2 : Int32} {vs : List Value} {V : Cell} (h : CodA cs cd N2 vs) (hn : 2 * cs.length < 2 ^ 31) (hs : V.slots.size = N2.toNatClampNeg) (hv : RoadKit.Has V vs (.int 0)) : Cod cd cs.length (fun j => cs.getD j 0) V := by
  rcases h with ⟨rfl, rfl, rfl, h⟩ | ⟨rfl, rfl, rfl, c, hc, hw⟩
  · rw [n32 (by omega)] at hs
    exact Or.inl ⟨rfl, hs, fun j hj => ⟨by rw [hv j (by omega), low_at _ _ _ hj], by
      have e : cs.getD j 0 = cs[j] := by simp [List.getD_eq_getElem?_getD, hj]
      show ¬ 255 < cs.getD j 0
      rw [e]; exact h _ (List.getElem_mem _)⟩⟩
  · rw [n32 (by omega)] at hs
    obtain ⟨j, hj, rfl⟩ := List.getElem_of_mem hc
    exact Or.inr ⟨rfl, hs, fun j hj => ⟨by rw [hv _ (by omega), wide_lo _ _ _ hj], by rw [hv _ (by omega), wide_hi _ _ _ hj]⟩, j, hj, by
      have e : cs.getD j 0 = cs[j] := by simp [List.getD_eq_getElem?_getD, hj]
      show 255 < cs.getD j 0
      rw [e]; exact hw⟩
/-- an object of exactly java/lang/String, its two fields found: as the laws ask it -/
theorem strObj {Z U : State} {a0 : Array Value} {kI : Nat} (wi : (Jvm.Cond.instantiable ST kI).before a0 Z = true) (al : Z.vm.Alike U.vm) {x : Addr} {v0 c0 : Value} (E : RoadKit.Exa Z U.heap x ST) (V : RoadKit.Fld Z U.heap x ST "value" "[B" v0) (C : RoadKit.Fld Z U.heap x ST "coder" "B" c0) :
    ∃ (D : Cell) (fV fC : Field), Blank ST x D U ∧ Found ST "value" "[B" fV U ∧ Found ST "coder" "B" fC U ∧ D.slots[fV.slot]? = some v0 ∧ D.slots[fC.slot]? = some c0 ∧ RoadKit.slotOf Z ST "value" "[B" = fV.slot ∧ RoadKit.slotOf Z ST "coder" "B" = fC.slot := by
  obtain ⟨D, cfV, kV, iV, fV, hD, gV, stV, knV, obV, asV, slV⟩ := V
  obtain ⟨D', cfC, kC, iC, fC, hD', gC, stC, -, -, asC, slC⟩ := C
  cases hD.symm.trans hD'
  obtain ⟨D2, kD, e1, e2, e3, e4, e5⟩ := E
  cases hD.symm.trans e1
  obtain ⟨c2, k2, i1, i2, i3, -⟩ := Cond.instantiable_spec wi
  cases e2.symm.trans i1
  cases e3.symm.trans i2
  obtain ⟨kU, u1, u2⟩ := al.2.2 _ _ e3
  exact ⟨D, fV, fC, ⟨hD, ⟨knV, fun q hq => by rw [hq] at obV; cases obV⟩, by rw [al.findClass]; exact e2, kU, u1, by rw [u2]; exact i3, by rw [u2]; exact e5 i3⟩, ⟨SBG.found_only al ⟨cfV, kV, iV, gV⟩, stV⟩, ⟨SBG.found_only al ⟨cfC, kC, iC, gC⟩, stC⟩, slV, slC, by simp [RoadKit.slotOf, gV], by simp [RoadKit.slotOf, gC]⟩
theorem sta_is {Z U : State} (al : Z.vm.Alike U.vm) {C n d : String} {v : Value} (S : RoadKit.Sta Z U.heap C n d v) : StaticIs U C n d v := by
  obtain ⟨cfS, iS, kS, fS, st, cS, t1, t2, t3, t4, t5, t6, t7⟩ := S
  exact StaticIs.there (s := { Z with heap := U.heap }) ⟨cfS, iS, kS, fS, st, cS, t1, t2, t3, t4, t5, (fun q => by rw [q] at t6; cases t6), t7⟩ al rfl
end StrChars.Road
namespace StrChars
open Jvm Sem ClassFile Op Lib Jvm.Stand Jvm.Free.XT Jvm.Free.ALB Jvm.Free.JM Jvm.Free
open Jvm.Lib.Cold (StaticIs)
/-- what place i of a byte[]'s cell holds -/
def yv (A : Cell) (i : Nat) : Int32 := match A.slots[i]? with | some (.int x) => x | _ => 0
theorem yv_get {a : Addr} {A : Cell} {U : State} (h : XT.Arr .byte a A U) (ht : Typed .byte A) {i : Nat} (hi : i < A.slots.size) : A.slots[i]? = some (.int (yv A i)) := by
  have e := Array.getElem?_eq_getElem hi
  have f := ht i _ e
  unfold yv; rw [e]
  generalize A.slots[i] = v at f
  cases v <;> simp [fits] at f ⊢
/-- the two arrays are equal, place for place -/
def EqC (A B : Cell) : Prop := A.slots.size = B.slots.size ∧ ∀ i, i < A.slots.size → yv A i = yv B i
/-- a boolean that says whether p -/
def Says01 (q : Prop) (r : Option Value) (s u : State) : Prop := ∃ v : Int32, r = some (.int v) ∧ u.heap = s.heap ∧ ((v = 1 ∧ q) ∨ (v = 0 ∧ ¬ q))
theorem Says01.mv {q : Prop} : ∀ r (U U' V V' : State), U'.heap = U.heap → V.vm.Alike V'.vm → V'.heap = V.heap → Says01 q r U V → Says01 q r U' V' :=
  fun r U U' V V' h1 _ h2 ⟨v, a, b, c⟩ => ⟨v, a, by rw [h1, h2]; exact b, c⟩
namespace LEq
def yN : MethodName := ⟨"java/lang/StringLatin1", "equals", "([B[B)Z"⟩
abbrev yB : ByteArray := jdk_43_method_13_code
theorem d0 : decode yB 0 = .ok (.aload_n 0, 1) := by decide +kernel
theorem d1 : decode yB 1 = .ok (.arraylength, 1) := by decide +kernel
theorem d2 : decode yB 2 = .ok (.aload_n 1, 1) := by decide +kernel
theorem d3 : decode yB 3 = .ok (.arraylength, 1) := by decide +kernel
theorem d4 : decode yB 4 = .ok (.if_icmp (.ne) 30, 3) := by decide +kernel
theorem d7 : decode yB 7 = .ok (.iconst 0, 1) := by decide +kernel
theorem d8 : decode yB 8 = .ok (.istore_n 2, 1) := by decide +kernel
theorem d9 : decode yB 9 = .ok (.iload_n 2, 1) := by decide +kernel
theorem d10 : decode yB 10 = .ok (.aload_n 0, 1) := by decide +kernel
theorem d11 : decode yB 11 = .ok (.arraylength, 1) := by decide +kernel
theorem d12 : decode yB 12 = .ok (.if_icmp (.ge) 20, 3) := by decide +kernel
theorem d15 : decode yB 15 = .ok (.aload_n 0, 1) := by decide +kernel
theorem d16 : decode yB 16 = .ok (.iload_n 2, 1) := by decide +kernel
theorem d17 : decode yB 17 = .ok (.baload, 1) := by decide +kernel
theorem d18 : decode yB 18 = .ok (.aload_n 1, 1) := by decide +kernel
theorem d19 : decode yB 19 = .ok (.iload_n 2, 1) := by decide +kernel
theorem d20 : decode yB 20 = .ok (.baload, 1) := by decide +kernel
theorem d21 : decode yB 21 = .ok (.if_icmp (.eq) 5, 3) := by decide +kernel
theorem d24 : decode yB 24 = .ok (.iconst 0, 1) := by decide +kernel
theorem d25 : decode yB 25 = .ok (.ireturn, 1) := by decide +kernel
theorem d26 : decode yB 26 = .ok (.iinc 2 1, 3) := by decide +kernel
theorem d29 : decode yB 29 = .ok (.goto (-20), 3) := by decide +kernel
theorem d32 : decode yB 32 = .ok (.iconst 1, 1) := by decide +kernel
theorem d33 : decode yB 33 = .ok (.ireturn, 1) := by decide +kernel
theorem d34 : decode yB 34 = .ok (.iconst 0, 1) := by decide +kernel
theorem d35 : decode yB 35 = .ok (.ireturn, 1) := by decide +kernel
def site : List Cond := []
def tab : Cond := tabOf yN yB 3 (some .boolean) site
def P (a : Addr) (A : Cell) (b : Addr) (B : Cell) (args : Array Value) (s : State) : Prop := args = #[.ref a, .ref b] ∧ XT.Arr .byte a A s ∧ Typed .byte A ∧ XT.Arr .byte b B s ∧ Typed .byte B
/-- whether two byte[] are equal, place for place -/
theorem law (l : Launch) (a : Addr) (A : Cell) (b : Addr) (B : Cell) : Law l yN 2 2 0 0 yB 3 (some .boolean) site (P a A b B) (Says01 (EqC A B)) [] 0 0 := by
  refine Law.of_walk (plainFor_of_name (by decide +kernel)) (by decide +kernel) (by decide +kernel) (by decide) (fun _ _ h => by rw [h.1]; rfl) (fun _ U U' hal hh h => ⟨h.1, h.2.1.mv hal hh, h.2.2.1, h.2.2.2.1.mv hal hh, h.2.2.2.2⟩) (fun r U U' V V' h1 hal h2 h => Says01.mv r U U' V V' h1 hal h2 h) ?_
  intro p e s m args below meth c s₁ X0 hexec hbytes hml hret hlk hnm hown hh0 W hP
  obtain ⟨rfl, hA, tA, hB, tB⟩ := hP
  have a31 := hA.2.2.2
  have b31 := hB.2.2.2
  have hA0 := hA.mv X0.warmed.alike hh0
  have hB0 := hB.mv X0.warmed.alike hh0
  have c1 : Steps p.tables e below (s₁.setTop (entryFrame m #[.ref a, .ref b] 3)) (s₁.setTop (mkF m 0 #[.val (.ref a), .val (.ref b), .unset] [])) := entry rfl
  have c2 : Steps p.tables e below (s₁.setTop (entryFrame m #[.ref a, .ref b] 3)) (s₁.setTop (mkF m 4 #[.val (.ref a), .val (.ref b), .unset] [.int (Int32.ofNat B.slots.size), .int (Int32.ofNat A.slots.size)])) := c1.trans (by
    refine XS.aloadN X0.here hexec rfl (hb hbytes d0) rfl rfl ?_
    refine X0.alen hexec hA0 rfl rfl (hb hbytes d1) ?_
    refine XS.aloadN X0.here hexec rfl (hb hbytes d2) rfl rfl ?_
    refine X0.alen hexec hB0 rfl rfl (hb hbytes d3) ?_
    exact Steps.refl _)
  by_cases hs : A.slots.size = B.slots.size
  · have c3 : Steps p.tables e below (s₁.setTop (entryFrame m #[.ref a, .ref b] 3)) (s₁.setTop (mkF m 9 #[.val (.ref a), .val (.ref b), .val (.int 0)] [])) := c2.trans (by
      refine XS.icmpNo X0.here hexec rfl (hb hbytes d4) rfl (ii_ne_f (by rw [hs])) ?_
      refine iconstV X0.here hexec rfl 0 (hb hbytes d7) (by decide) ?_
      refine XS.istoreN X0.here hexec rfl (hb hbytes d8) rfl rfl ?_
      exact Steps.refl _)
    have loop : ∀ (r i : Nat), i + r = A.slots.size → (∀ j, j < i → yv A j = yv B j) → Steps p.tables e below (s₁.setTop (entryFrame m #[.ref a, .ref b] 3)) (s₁.setTop (mkF m 9 #[.val (.ref a), .val (.ref b), .val (.int (Int32.ofNat i))] [])) → ∃ (pc : Nat) (Ls : Array Slot) (v : Int32), (pc = 25 ∨ pc = 33) ∧ ((v = 1 ∧ EqC A B) ∨ (v = 0 ∧ ¬ EqC A B)) ∧ Steps p.tables e below (s₁.setTop (entryFrame m #[.ref a, .ref b] 3)) (s₁.setTop (mkF m pc Ls [.int v])) := by
      intro r
      induction r with
      | zero =>
        intro i hi he cl
        exact ⟨33, _, 1, Or.inr rfl, Or.inl ⟨rfl, hs, fun j hj => he j (by omega)⟩, cl.trans (by
          refine XS.iloadN X0.here hexec rfl (hb hbytes d9) rfl ?_
          refine XS.aloadN X0.here hexec rfl (hb hbytes d10) rfl rfl ?_
          refine X0.alen hexec hA0 rfl rfl (hb hbytes d11) ?_
          refine XS.icmpYes X0.here hexec rfl (pc0 := 12) rfl (hb hbytes d12) rfl (ii_ge_t (nlt32 (by omega) (by omega))) (by decide) rfl ?_
          refine iconstV X0.here hexec rfl 1 (hb hbytes d32) (by decide) ?_
          exact Steps.refl _)⟩
      | succ r ih =>
        intro i hi he cl
        have c4 : Steps p.tables e below (s₁.setTop (entryFrame m #[.ref a, .ref b] 3)) (s₁.setTop (mkF m 21 #[.val (.ref a), .val (.ref b), .val (.int (Int32.ofNat i))] [.int (yv B i), .int (yv A i)])) := cl.trans (by
          refine XS.iloadN X0.here hexec rfl (hb hbytes d9) rfl ?_
          refine XS.aloadN X0.here hexec rfl (hb hbytes d10) rfl rfl ?_
          refine X0.alen hexec hA0 rfl rfl (hb hbytes d11) ?_
          refine XS.icmpNo X0.here hexec rfl (hb hbytes d12) rfl (ii_ge_f (lt32 (by omega) (by omega))) ?_
          refine XS.aloadN X0.here hexec rfl (hb hbytes d15) rfl rfl ?_
          refine XS.iloadN X0.here hexec rfl (hb hbytes d16) rfl ?_
          refine X0.aget hexec hA0 rfl (yv_get hA tA (i := i) (by omega)) rfl rfl (hb hbytes d17) ?_
          refine XS.aloadN X0.here hexec rfl (hb hbytes d18) rfl rfl ?_
          refine XS.iloadN X0.here hexec rfl (hb hbytes d19) rfl ?_
          refine X0.aget hexec hB0 rfl (yv_get hB tB (i := i) (by omega)) rfl rfl (hb hbytes d20) ?_
          exact Steps.refl _)
        by_cases hv : yv A i = yv B i
        · have c5 : Steps p.tables e below (s₁.setTop (entryFrame m #[.ref a, .ref b] 3)) (s₁.setTop (mkF m 9 #[.val (.ref a), .val (.ref b), .val (.int (Int32.ofNat i + 1))] [])) := c4.trans (by
            refine XS.icmpYes X0.here hexec rfl (pc0 := 21) rfl (hb hbytes d21) rfl (ii_eq_t hv) (by decide) rfl ?_
            refine iincV X0.here hexec rfl 1 (hb hbytes d26) (by decide) rfl rfl ?_
            refine XS.goto X0.here hexec rfl (pc0 := 29) rfl (hb hbytes d29) (by decide) rfl ?_
            exact Steps.refl _)
          rw [succ32] at c5
          exact ih (i + 1) (by omega) (fun j hj => by
            by_cases e : j = i
            · rw [e]; exact hv
            · exact he j (by omega)) c5
        · exact ⟨25, _, 0, Or.inl rfl, Or.inr ⟨rfl, fun q => hv (q.2 i (by omega))⟩, c4.trans (by
            refine XS.icmpNo X0.here hexec rfl (hb hbytes d21) rfl (ii_eq_f hv) ?_
            refine iconstV X0.here hexec rfl 0 (hb hbytes d24) (by decide) ?_
            exact Steps.refl _)⟩
    obtain ⟨pc, Ls, v, hpc, hv, cz⟩ := loop A.slots.size 0 (by omega) (fun j hj => absurd hj (Nat.not_lt_zero j)) c3
    have nv : narrow .boolean (.int v) = .int v := by rcases hv with ⟨rfl, -⟩ | ⟨rfl, -⟩ <;> rfl
    rcases hpc with rfl | rfl
    · exact ⟨s₁, some (.int v), _, _, _, X0, rfl, rfl, rfl, (fun h => by cases h), ⟨v, rfl, hh0, hv⟩, fun fs hl => cz.trans (X0.ireturnOut hexec hret nv (Or.inr (Or.inl rfl)) (hb hbytes d25) hl)⟩
    · exact ⟨s₁, some (.int v), _, _, _, X0, rfl, rfl, rfl, (fun h => by cases h), ⟨v, rfl, hh0, hv⟩, fun fs hl => cz.trans (X0.ireturnOut hexec hret nv (Or.inr (Or.inl rfl)) (hb hbytes d33) hl)⟩
  · have c3 : Steps p.tables e below (s₁.setTop (entryFrame m #[.ref a, .ref b] 3)) (s₁.setTop (mkF m 35 #[.val (.ref a), .val (.ref b), .unset] [.int 0])) := c2.trans (by
      refine XS.icmpYes X0.here hexec rfl (pc0 := 4) rfl (hb hbytes d4) rfl (ii_ne_t (ne32 a31 b31 hs)) (by decide) rfl ?_
      refine iconstV X0.here hexec rfl 0 (hb hbytes d34) (by decide) ?_
      exact Steps.refl _)
    exact ⟨s₁, some (.int 0), _, _, _, X0, rfl, rfl, rfl, (fun h => by cases h), ⟨0, rfl, hh0, Or.inr ⟨rfl, fun q => hs q.1⟩⟩, fun fs hl => c3.trans (X0.ireturnOut hexec hret rfl (Or.inr (Or.inl rfl)) (hb hbytes d35) hl)⟩
end LEq
theorem Cod.ty {cd : Int32} {n : Nat} {f : Nat → Int32} {V : Cell} (h : Cod cd n f V) : Typed .byte V := fun i v hv => by
  have hi : i < V.slots.size := (Array.getElem?_eq_some_iff.mp hv).1
  rcases h with ⟨-, k1, k2⟩ | ⟨-, k1, k2, -⟩
  · rw [(k2 i (by omega)).1] at hv; cases hv; exact fits_lo8 _
  · rcases Nat.mod_two_eq_zero_or_one i with e | e
    · obtain ⟨j, rfl⟩ : ∃ j, i = 2 * j := ⟨i / 2, by omega⟩
      rw [(k2 j (by omega)).1] at hv; cases hv; exact fits_lo8 _
    · obtain ⟨j, rfl⟩ : ∃ j, i = 2 * j + 1 := ⟨i / 2, by omega⟩
      rw [(k2 j (by omega)).2] at hv; cases hv; exact fits_lo8 _
/-- the same text -/
def SameT (n : Nat) (f : Nat → Int32) (k : Nat) (g : Nat → Int32) : Prop := n = k ∧ ∀ j, j < n → f j = g j
theorem lo8_inj {x y : Int32} (h0 : ¬ x < 0) (h1 : ¬ 255 < x) (k0 : ¬ y < 0) (k1 : ¬ 255 < y) (h : lo8 x = lo8 y) : x = y := by
  rw [← lo8_mask h0 h1, ← lo8_mask k0 k1, h]
/-- arrays coded by one coder are equal just where the texts are -/
theorem Cod.eqv {cd : Int32} {n k : Nat} {f g : Nat → Int32} {V V' : Cell} (h : Cod cd n f V) (h' : Cod cd k g V') (hf : ∀ j, j < n → ¬ f j < 0 ∧ ¬ 65535 < f j) (hg : ∀ j, j < k → ¬ g j < 0 ∧ ¬ 65535 < g j) : EqC V V' ↔ SameT n f k g := by
  have yvv : ∀ {W : Cell} {i : Nat} {x : Int32}, W.slots[i]? = some (.int x) → yv W i = x := fun q => by unfold yv; rw [q]
  rcases h with ⟨rfl, k1, k2⟩ | ⟨rfl, k1, k2, -⟩
  · rcases h' with ⟨-, m1, m2⟩ | ⟨e, -⟩
    · constructor
      · rintro ⟨e1, e2⟩
        refine ⟨by omega, fun j hj => ?_⟩
        have q := e2 j (by omega)
        rw [yvv (k2 j hj).1, yvv (m2 j (by omega)).1] at q
        exact lo8_inj (hf j hj).1 (k2 j hj).2 (hg j (by omega)).1 (m2 j (by omega)).2 q
      · rintro ⟨rfl, e2⟩
        refine ⟨by omega, fun j hj => ?_⟩
        rw [yvv (k2 j (by omega)).1, yvv (m2 j (by omega)).1, e2 j (by omega)]
    · exact absurd e (by decide)
  · rcases h' with ⟨e, -⟩ | ⟨-, m1, m2, -⟩
    · exact absurd e (by decide)
    · constructor
      · rintro ⟨e1, e2⟩
        refine ⟨by omega, fun j hj => ?_⟩
        have q1 := e2 (2 * j) (by omega)
        have q2 := e2 (2 * j + 1) (by omega)
        rw [yvv (k2 j hj).1, yvv (m2 j (by omega)).1] at q1
        rw [yvv (k2 j hj).2, yvv (m2 j (by omega)).2] at q2
        rw [← pair_says (hf j hj).1 (hf j hj).2, ← pair_says (hg j (by omega)).1 (hg j (by omega)).2, q1, q2]
      · rintro ⟨rfl, e2⟩
        refine ⟨by omega, fun i hi => ?_⟩
        rcases Nat.mod_two_eq_zero_or_one i with e | e
        · obtain ⟨j, rfl⟩ : ∃ j, i = 2 * j := ⟨i / 2, by omega⟩
          rw [yvv (k2 j (by omega)).1, yvv (m2 j (by omega)).1, e2 j (by omega)]
        · obtain ⟨j, rfl⟩ : ∃ j, i = 2 * j + 1 := ⟨i / 2, by omega⟩
          rw [yvv (k2 j (by omega)).2, yvv (m2 j (by omega)).2, e2 j (by omega)]
/-- two codings differ: so do the texts -/
theorem Cod.dif {cd cd' : Int32} {n k : Nat} {f g : Nat → Int32} {V V' : Cell} (h : Cod cd n f V) (h' : Cod cd' k g V') (hne : ¬ cd = cd') : ¬ SameT n f k g := by
  rintro ⟨rfl, e⟩
  rcases h with ⟨rfl, -, k2⟩ | ⟨rfl, -, -, j, hj, hw⟩
  · rcases h' with ⟨rfl, -⟩ | ⟨-, -, -, j, hj, hw⟩
    · exact hne rfl
    · exact (k2 j hj).2 (by rw [e j hj]; exact hw)
  · rcases h' with ⟨-, -, m2⟩ | ⟨rfl, -⟩
    · exact (m2 j hj).2 (by rw [← e j hj]; exact hw)
    · exact hne rfl
/-- an object of exactly C is an instance of C -/
theorem cinst {p : Program} {l : Launch} {e : Env} {R : Room} {s : State} {m : MethodId} {args : Array Value} {below : List Frame} {meth : Method} {c : Code} {T : State} {locs : List Loc} {cells slots : Nat} (X : Stand p l e R s m args below meth c T locs cells slots) (hexec : p.tables.exec = Jvm.exec) {own C : String} {index : Nat} (hown : s.vm.findClass own = some m.cls) (hlink : (Cond.classLink own index C).before args s = true) {a : Addr} (hE : Exact C a T)
    {g : JFrame} (hg : g.method = m) {rest : List Value} (hstack : g.stack = .ref a :: rest) (hdg : decode c.code g.pc = .ok (.instanceof index, 3)) :
    ∃ T', Stand p l e R s m args below meth c T' locs cells slots ∧ T'.heap = T.heap ∧ ∀ target, Steps p.tables e below (T'.setTop { g with pc := g.pc + 3, stack := .int 1 :: rest }) target → Steps p.tables e below (T.setTop g) target := by
  obtain ⟨cB, h1, D, h2, h3, h4⟩ := hE
  have h1' : s.vm.findClass C = some cB := by rw [← X.warmed.alike.findClass]; exact h1
  obtain ⟨vm', X', st⟩ := X.instanceofYes hexec hown hlink h2 h4 h1' (by rw [h3]; exact Jvm.Free.SB.assignable_self _ _) hg hstack hdg
  exact ⟨_, X', rfl, st⟩
theorem cself {p : Program} {l : Launch} {e : Env} {R : Room} {s : State} {m : MethodId} {args : Array Value} {below : List Frame} {meth : Method} {c : Code} {T : State} {locs : List Loc} {cells slots : Nat} (X : Stand p l e R s m args below meth c T locs cells slots) (hexec : p.tables.exec = Jvm.exec) {own C : String} {index : Nat} (hown : s.vm.findClass own = some m.cls) (hlink : (Cond.classLink own index C).before args s = true) {a : Addr} (hE : Exact C a T)
    {g : JFrame} (hg : g.method = m) {rest : List Value} (hstack : g.stack = .ref a :: rest) (hdg : decode c.code g.pc = .ok (.checkcast index, 3)) :
    ∃ T', Stand p l e R s m args below meth c T' locs cells slots ∧ T'.heap = T.heap ∧ ∀ target, Steps p.tables e below (T'.setTop { g with pc := g.pc + 3, stack := .ref a :: rest }) target → Steps p.tables e below (T.setTop g) target := by
  obtain ⟨cB, h1, D, h2, h3, h4⟩ := hE
  have h1' : s.vm.findClass C = some cB := by rw [← X.warmed.alike.findClass]; exact h1
  obtain ⟨vm', X', st⟩ := X.checkcastYes hexec hown hlink h2 h4 h1' (by rw [h3]; exact Jvm.Free.SB.assignable_self _ _) hg hstack hdg
  exact ⟨_, X', rfl, fun t h => st t (by rw [← hstack] at h; exact h)⟩
namespace SEq
def yN : MethodName := ⟨"java/lang/String", "equals", "(Ljava/lang/Object;)Z"⟩
abbrev yB : ByteArray := jdk_42_method_66_code
theorem d0 : decode yB 0 = .ok (.aload_n 0, 1) := by decide +kernel
theorem d1 : decode yB 1 = .ok (.aload_n 1, 1) := by decide +kernel
theorem d2 : decode yB 2 = .ok (.if_acmp (.ne) 5, 3) := by decide +kernel
theorem d5 : decode yB 5 = .ok (.iconst 1, 1) := by decide +kernel
theorem d6 : decode yB 6 = .ok (.ireturn, 1) := by decide +kernel
theorem d7 : decode yB 7 = .ok (.aload_n 1, 1) := by decide +kernel
theorem d8 : decode yB 8 = .ok (.instanceof 10, 3) := by decide +kernel
theorem d11 : decode yB 11 = .ok (.ifCond (.eq) 43, 3) := by decide +kernel
theorem d14 : decode yB 14 = .ok (.aload_n 1, 1) := by decide +kernel
theorem d15 : decode yB 15 = .ok (.checkcast 10, 3) := by decide +kernel
theorem d18 : decode yB 18 = .ok (.astore_n 2, 1) := by decide +kernel
theorem d19 : decode yB 19 = .ok (.getstatic 38, 3) := by decide +kernel
theorem d22 : decode yB 22 = .ok (.ifCond (.eq) 14, 3) := by decide +kernel
theorem d25 : decode yB 25 = .ok (.aload_n 0, 1) := by decide +kernel
theorem d26 : decode yB 26 = .ok (.getfield 15, 3) := by decide +kernel
theorem d29 : decode yB 29 = .ok (.aload_n 2, 1) := by decide +kernel
theorem d30 : decode yB 30 = .ok (.getfield 15, 3) := by decide +kernel
theorem d33 : decode yB 33 = .ok (.if_icmp (.ne) 21, 3) := by decide +kernel
theorem d36 : decode yB 36 = .ok (.aload_n 0, 1) := by decide +kernel
theorem d37 : decode yB 37 = .ok (.getfield 9, 3) := by decide +kernel
theorem d40 : decode yB 40 = .ok (.aload_n 2, 1) := by decide +kernel
theorem d41 : decode yB 41 = .ok (.getfield 9, 3) := by decide +kernel
theorem d44 : decode yB 44 = .ok (.invokestatic 541, 3) := by decide +kernel
theorem d47 : decode yB 47 = .ok (.ifCond (.eq) 7, 3) := by decide +kernel
theorem d50 : decode yB 50 = .ok (.iconst 1, 1) := by decide +kernel
theorem d51 : decode yB 51 = .ok (.goto 4, 3) := by decide +kernel
theorem d54 : decode yB 54 = .ok (.iconst 0, 1) := by decide +kernel
theorem d55 : decode yB 55 = .ok (.ireturn, 1) := by decide +kernel
def site : List Cond := [.classLink "java/lang/String" 10 "java/lang/String", .fieldLink "java/lang/String" 38 "java/lang/String" "COMPACT_STRINGS" "Z", .fieldLink "java/lang/String" 15 "java/lang/String" "coder" "B", .fieldLink "java/lang/String" 9 "java/lang/String" "value" "[B", LEq.tab] ++ staticW "java/lang/String" 541 LEq.yN
def tab : Cond := tabOf yN yB 3 (some .boolean) site
def P (x t : Addr) (V : Cell) (cd : Int32) (n : Nat) (f : Nat → Int32) (y t' : Addr) (V' : Cell) (cd' : Int32) (k : Nat) (g : Nat → Int32) (z : Int32) (args : Array Value) (s : State) : Prop := args = #[.ref x, .ref y] ∧ Txt x t V cd n f s ∧ Txt y t' V' cd' k g s ∧ StaticIs s "java/lang/String" "COMPACT_STRINGS" "Z" (.int z) ∧ ¬ z = 0
/-- equals(Object) of two Strings: whether the texts are the same -/
theorem law (l : Launch) (x t : Addr) (V : Cell) (cd : Int32) (n : Nat) (f : Nat → Int32) (y t' : Addr) (V' : Cell) (cd' : Int32) (k : Nat) (g : Nat → Int32) (z : Int32) : Law l yN 2 1 1 14 yB 3 (some .boolean) site (P x t V cd n f y t' V' cd' k g z) (Says01 (SameT n f k g)) [] 0 0 := by
  refine Law.of_walk (plainFor_of_name (by decide +kernel)) (by decide +kernel) (by decide +kernel) (by decide) (fun _ _ h => by rw [h.1]; rfl) (fun _ U U' hal hh h => ⟨h.1, h.2.1.mv hal hh, h.2.2.1.mv hal hh, h.2.2.2.1.there hal hh, h.2.2.2.2⟩) (fun r U U' V V' h1 hal h2 h => Says01.mv r U U' V V' h1 hal h2 h) ?_
  intro p e s m args below meth c s₁ X0 hexec hbytes hml hret hlk hnm hown hh0 W hP
  obtain ⟨rfl, hx, hy, s1, hz⟩ := hP
  have c1 : Steps p.tables e below (s₁.setTop (entryFrame m #[.ref x, .ref y] 3)) (s₁.setTop (mkF m 2 #[.val (.ref x), .val (.ref y), .unset] [.ref y, .ref x])) := Steps.trans (entry rfl) (by
    show Steps p.tables e below (s₁.setTop (mkF m 0 #[.val (.ref x), .val (.ref y), .unset] [])) _
    refine XS.aloadN X0.here hexec rfl (hb hbytes d0) rfl rfl ?_
    refine XS.aloadN X0.here hexec rfl (hb hbytes d1) rfl rfl ?_
    exact Steps.refl _)
  by_cases hxy : x = y
  · have c2 : Steps p.tables e below (s₁.setTop (entryFrame m #[.ref x, .ref y] 3)) (s₁.setTop (mkF m 6 #[.val (.ref x), .val (.ref y), .unset] [.int 1])) := c1.trans (by
      refine acmpNo X0.here hexec rfl (hb hbytes d2) rfl rfl rfl (by simp [acmp, hxy]) ?_
      refine iconstV X0.here hexec rfl 1 (hb hbytes d5) (by decide) ?_
      exact Steps.refl _)
    subst hxy
    have ec : cd = cd' := by
      obtain ⟨D, fd, a1, a2, a3⟩ := hx.2.2.1
      obtain ⟨D', fd', b1, b2, b3⟩ := hy.2.2.1
      cases a1.symm.trans b1
      obtain ⟨q1, q2, q3, q4⟩ := a2.1
      obtain ⟨r1, r2, r3, r4⟩ := b2.1
      cases q4.symm.trans r4
      cases a3.symm.trans b3; rfl
    have et : t = t' := by
      obtain ⟨D, fd, a1, a2, a3⟩ := hx.2.1
      obtain ⟨D', fd', b1, b2, b3⟩ := hy.2.1
      cases a1.symm.trans b1
      obtain ⟨q1, q2, q3, q4⟩ := a2.1
      obtain ⟨r1, r2, r3, r4⟩ := b2.1
      cases q4.symm.trans r4
      cases a3.symm.trans b3; rfl
    subst ec et
    have ev : V = V' := by cases hx.2.2.2.1.1.symm.trans hy.2.2.2.1.1; rfl
    subst ev
    have hs : SameT n f k g := (Cod.eqv hx.2.2.2.2.1 hy.2.2.2.2.1 hx.2.2.2.2.2 hy.2.2.2.2.2).mp ⟨rfl, fun _ _ => rfl⟩
    exact ⟨s₁, some (.int 1), _, _, _, X0, rfl, rfl, rfl, (fun h => by cases h), ⟨1, rfl, hh0, Or.inl ⟨rfl, hs⟩⟩, fun fs hl => c2.trans (X0.ireturnOut hexec hret rfl (Or.inr (Or.inl rfl)) (hb hbytes d6) hl)⟩
  · have c2 : Steps p.tables e below (s₁.setTop (entryFrame m #[.ref x, .ref y] 3)) (s₁.setTop (mkF m 8 #[.val (.ref x), .val (.ref y), .unset] [.ref y])) := c1.trans (by
      refine acmpYes X0.here hexec rfl (pc0 := 2) rfl (hb hbytes d2) rfl rfl rfl (by simp [acmp, hxy]) (by decide) rfl ?_
      refine XS.aloadN X0.here hexec rfl (hb hbytes d7) rfl rfl ?_
      exact Steps.refl _)
    obtain ⟨T3, X3, q3, st3⟩ := cinst X0 hexec hown (wk W (.classLink "java/lang/String" 10 "java/lang/String")) (hy.mv X0.warmed.alike hh0).1 (g := (mkF m 8 #[.val (.ref x), .val (.ref y), .unset] [.ref y])) rfl (rest := []) rfl (hb hbytes d8)
    have hh3 := q3.trans hh0
    have c4 : Steps p.tables e below (s₁.setTop (entryFrame m #[.ref x, .ref y] 3)) (T3.setTop (mkF m 15 #[.val (.ref x), .val (.ref y), .unset] [.ref y])) := (c2.trans (st3 _ (Steps.refl _))).trans (by
      refine XS.ifNo X3.here hexec rfl (hb hbytes d11) rfl (i0_eq_f (by decide)) ?_
      refine XS.aloadN X3.here hexec rfl (hb hbytes d14) rfl rfl ?_
      exact Steps.refl _)
    obtain ⟨T5, X5, q5, st5⟩ := cself X3 hexec hown (wk W (.classLink "java/lang/String" 10 "java/lang/String")) (hy.mv X3.warmed.alike hh3).1 (g := (mkF m 15 #[.val (.ref x), .val (.ref y), .unset] [.ref y])) rfl (rest := []) rfl (hb hbytes d15)
    have hh5 := q5.trans hh3
    have c6 : Steps p.tables e below (s₁.setTop (entryFrame m #[.ref x, .ref y] 3)) (T5.setTop (mkF m 19 #[.val (.ref x), .val (.ref y), .val (.ref y)] [])) := (c4.trans (st5 _ (Steps.refl _))).trans (by
      refine XS.astoreN X5.here hexec rfl (hb hbytes d18) rfl rfl rfl ?_
      exact Steps.refl _)
    obtain ⟨T7, X7, q7, st7⟩ := X5.sget hexec hown (wk W (.fieldLink "java/lang/String" 38 "java/lang/String" "COMPACT_STRINGS" "Z")) s1 (fun _ _ h => by rw [hh5]; exact h) (g := (mkF m 19 #[.val (.ref x), .val (.ref y), .val (.ref y)] [])) rfl (hb hbytes d19)
    have hh7 := q7.trans hh5
    have c8 : Steps p.tables e below (s₁.setTop (entryFrame m #[.ref x, .ref y] 3)) (T7.setTop (mkF m 26 #[.val (.ref x), .val (.ref y), .val (.ref y)] [.ref x])) := (c6.trans (st7 _ (Steps.refl _))).trans (by
      refine XS.ifNo X7.here hexec rfl (hb hbytes d22) rfl (i0_eq_f hz) ?_
      refine XS.aloadN X7.here hexec rfl (hb hbytes d25) rfl rfl ?_
      exact Steps.refl _)
    obtain ⟨T9, X9, q9, st9⟩ := X7.hget hexec hown (wk W (.fieldLink "java/lang/String" 15 "java/lang/String" "coder" "B")) (hx.mv X7.warmed.alike hh7).2.2.1 (g := (mkF m 26 #[.val (.ref x), .val (.ref y), .val (.ref y)] [.ref x])) rfl (rest := []) rfl (hb hbytes d26)
    have hh9 := q9.trans hh7
    have c10 : Steps p.tables e below (s₁.setTop (entryFrame m #[.ref x, .ref y] 3)) (T9.setTop (mkF m 30 #[.val (.ref x), .val (.ref y), .val (.ref y)] [.ref y, .int cd])) := (c8.trans (st9 _ (Steps.refl _))).trans (by
      refine XS.aloadN X9.here hexec rfl (hb hbytes d29) rfl rfl ?_
      exact Steps.refl _)
    obtain ⟨T11, X11, q11, st11⟩ := X9.hget hexec hown (wk W (.fieldLink "java/lang/String" 15 "java/lang/String" "coder" "B")) (hy.mv X9.warmed.alike hh9).2.2.1 (g := (mkF m 30 #[.val (.ref x), .val (.ref y), .val (.ref y)] [.ref y, .int cd])) rfl (rest := [.int cd]) rfl (hb hbytes d30)
    have hh11 := q11.trans hh9
    have c12 : Steps p.tables e below (s₁.setTop (entryFrame m #[.ref x, .ref y] 3)) (T11.setTop (mkF m 33 #[.val (.ref x), .val (.ref y), .val (.ref y)] [.int cd', .int cd])) := c10.trans (st11 _ (Steps.refl _))
    by_cases hcd : cd = cd'
    · subst hcd
      have c13 : Steps p.tables e below (s₁.setTop (entryFrame m #[.ref x, .ref y] 3)) (T11.setTop (mkF m 37 #[.val (.ref x), .val (.ref y), .val (.ref y)] [.ref x])) := c12.trans (by
        refine XS.icmpNo X11.here hexec rfl (hb hbytes d33) rfl (ii_ne_f rfl) ?_
        refine XS.aloadN X11.here hexec rfl (hb hbytes d36) rfl rfl ?_
        exact Steps.refl _)
      obtain ⟨T14, X14, q14, st14⟩ := X11.hget hexec hown (wk W (.fieldLink "java/lang/String" 9 "java/lang/String" "value" "[B")) (hx.mv X11.warmed.alike hh11).2.1 (g := (mkF m 37 #[.val (.ref x), .val (.ref y), .val (.ref y)] [.ref x])) rfl (rest := []) rfl (hb hbytes d37)
      have hh14 := q14.trans hh11
      have c15 : Steps p.tables e below (s₁.setTop (entryFrame m #[.ref x, .ref y] 3)) (T14.setTop (mkF m 41 #[.val (.ref x), .val (.ref y), .val (.ref y)] [.ref y, .ref t])) := (c13.trans (st14 _ (Steps.refl _))).trans (by
        refine XS.aloadN X14.here hexec rfl (hb hbytes d40) rfl rfl ?_
        exact Steps.refl _)
      obtain ⟨T16, X16, q16, st16⟩ := X14.hget hexec hown (wk W (.fieldLink "java/lang/String" 9 "java/lang/String" "value" "[B")) (hy.mv X14.warmed.alike hh14).2.1 (g := (mkF m 41 #[.val (.ref x), .val (.ref y), .val (.ref y)] [.ref y, .ref t])) rfl (rest := [.ref t]) rfl (hb hbytes d41)
      have hh16 := q16.trans hh14
      have c17 : Steps p.tables e below (s₁.setTop (entryFrame m #[.ref x, .ref y] 3)) (T16.setTop (mkF m 44 #[.val (.ref x), .val (.ref y), .val (.ref y)] [.ref t', .ref t])) := c15.trans (st16 _ (Steps.refl _))
      obtain ⟨v18, T18, X18, E18, g18⟩ := X16.callS hexec (LEq.law l t V t' V') hown (wks W (staticW "java/lang/String" 541 LEq.yN)) (wk W LEq.tab) (W := 0) (Nat.le_of_ble_eq_true rfl) (Nat.le_of_ble_eq_true rfl) (Nat.le_refl _) (Nat.le_refl _) (g := (mkF m 44 #[.val (.ref x), .val (.ref y), .val (.ref y)] [.ref t', .ref t])) rfl (by rw [hml]; rfl) c17 (argsL := [.ref t, .ref t']) (rest := []) rfl rfl (by show 2 * 0 + 0 ≤ _; decide) (hb hbytes d44) (⟨rfl, hx.2.2.2.1.mv X16.warmed.alike hh16, hx.2.2.2.2.1.ty, hy.2.2.2.1.mv X16.warmed.alike hh16, hy.2.2.2.2.1.ty⟩)
      obtain ⟨v, rfl, q18, hv⟩ := E18
      have iff := Cod.eqv hx.2.2.2.2.1 hy.2.2.2.2.1 hx.2.2.2.2.2 hy.2.2.2.2.2
      rcases hv with ⟨rfl, he⟩ | ⟨rfl, he⟩
      · have c19 : Steps p.tables e below (s₁.setTop (entryFrame m #[.ref x, .ref y] 3)) (T18.setTop (mkF m 55 #[.val (.ref x), .val (.ref y), .val (.ref y)] [.int 1])) := Steps.trans g18 (by
          refine XS.ifNo X18.here hexec rfl (hb hbytes d47) rfl (i0_eq_f (by decide)) ?_
          refine iconstV X18.here hexec rfl 1 (hb hbytes d50) (by decide) ?_
          refine XS.goto X18.here hexec rfl (pc0 := 51) rfl (hb hbytes d51) (by decide) rfl ?_
          exact Steps.refl _)
        exact ⟨T18, some (.int 1), _, _, _, X18, rfl, rfl, rfl, (fun h => by cases h), ⟨1, rfl, q18.trans hh16, Or.inl ⟨rfl, iff.mp he⟩⟩, fun fs hl => c19.trans (X18.ireturnOut hexec hret rfl (Or.inr (Or.inl rfl)) (hb hbytes d55) hl)⟩
      · have c19 : Steps p.tables e below (s₁.setTop (entryFrame m #[.ref x, .ref y] 3)) (T18.setTop (mkF m 55 #[.val (.ref x), .val (.ref y), .val (.ref y)] [.int 0])) := Steps.trans g18 (by
          refine XS.ifYes X18.here hexec rfl (pc0 := 47) rfl (hb hbytes d47) rfl (i0_eq_t rfl) (by decide) rfl ?_
          refine iconstV X18.here hexec rfl 0 (hb hbytes d54) (by decide) ?_
          exact Steps.refl _)
        exact ⟨T18, some (.int 0), _, _, _, X18, rfl, rfl, rfl, (fun h => by cases h), ⟨0, rfl, q18.trans hh16, Or.inr ⟨rfl, fun q => he (iff.mpr q)⟩⟩, fun fs hl => c19.trans (X18.ireturnOut hexec hret rfl (Or.inr (Or.inl rfl)) (hb hbytes d55) hl)⟩
    · have c13 : Steps p.tables e below (s₁.setTop (entryFrame m #[.ref x, .ref y] 3)) (T11.setTop (mkF m 55 #[.val (.ref x), .val (.ref y), .val (.ref y)] [.int 0])) := c12.trans (by
        refine XS.icmpYes X11.here hexec rfl (pc0 := 33) rfl (hb hbytes d33) rfl (ii_ne_t hcd) (by decide) rfl ?_
        refine iconstV X11.here hexec rfl 0 (hb hbytes d54) (by decide) ?_
        exact Steps.refl _)
      exact ⟨T11, some (.int 0), _, _, _, X11, rfl, rfl, rfl, (fun h => by cases h), ⟨0, rfl, hh11, Or.inr ⟨rfl, Cod.dif hx.2.2.2.2.1 hy.2.2.2.2.1 hcd⟩⟩, fun fs hl => c13.trans (X11.ireturnOut hexec hret rfl (Or.inr (Or.inl rfl)) (hb hbytes d55) hl)⟩
theorem pays {l : Launch} {R : Room} {p : Program} {e : Env} {below : List Frame} {s : State} {sargs : Array Value} {len W : Nat} (x t : Addr) (V : Cell) (cd : Int32) (n : Nat) (f : Nat → Int32) (y t' : Addr) (V' : Cell) (cd' : Int32) (k : Nat) (g : Nat → Int32) (z : Int32) (htab : tab.before sargs s = true) (hfr : 2 ≤ R.frames) (hlo : W + 28 ≤ R.locals) :
    Back l R p e below s sargs yN len W (fun A₁ a₁ => A₁.cells + 0 ≤ R.cells ∧ A₁.slots + 0 ≤ R.slots ∧ P x t V cd n f y t' V' cd' k g z a₁ A₁.U) (fun A₁ _ v₁ B₁ => Says01 (SameT n f k g) v₁ A₁.U B₁.U ∧ B₁.locs = A₁.locs ++ [] ∧ B₁.cells = A₁.cells + 0 ∧ B₁.slots = A₁.slots + 0) :=
  (law l x t V cd n f y t' V' cd' k g z).pays htab hfr (by omega)
end SEq
end StrChars
namespace StrChars.Road
open Jvm Sem ClassFile Op Lib Jvm.Stand Jvm.Free Jvm.Free.XT
open Jvm.Lib.Cold (StaticIs)
/-- the words of String.equals(Object) -/
abbrev wordsEq : List Jvm.Cond := [.code SEq.yN SEq.yB 3 (some .boolean), .initialized ST, .classLink ST 10 ST, .fieldLink ST 38 ST "COMPACT_STRINGS" "Z", .fieldLink ST 15 ST "coder" "B", .fieldLink ST 9 ST "value" "[B", .methodLink ST 541 LEq.yN, .static LEq.yN, .code LEq.yN LEq.yB 3 (some .boolean), .initialized "java/lang/StringLatin1"]
theorem tabEq_of {a : Array Value} {s : State} (h : ∀ w ∈ wordsEq, w.before a s = true) : SEq.tab.before a s = true := by
  have hl : LEq.tab.before a s = true := unparts (wk h (.code LEq.yN LEq.yB 3 (some .boolean))) (wks h (.initialized LEq.yN.cls :: LEq.site))
  have q := consq hl h
  exact unparts (wk q (.code SEq.yN SEq.yB 3 (some .boolean))) (wks q (.initialized SEq.yN.cls :: SEq.site))
theorem movedEq {Z s : State} {a0 args : Array Value} (hZ : Z.Warmed39 s.vm) (hw : ∀ d ∈ wordsEq, d.before a0 Z = true) : ∀ d ∈ wordsEq, d.before args s = true := fun d hd => by
  have t : ∀ d ∈ wordsEq, (d.onTables && d.keepsFace) = true := by decide +kernel
  exact RoadKit.mv hZ (hw d hd) (t d hd)
/-- the road's facts of a String, as the laws ask it -/
theorem txt_of {Z U : State} {a0 : Array Value} {kI : Nat} (wi : (Jvm.Cond.instantiable ST kI).before a0 Z = true) (al : Z.vm.Alike U.vm) {x t : Addr} {kb : ClassId} {cs : List Int32} {cd N2 : Int32} {vs : List Value} (E : RoadKit.Exa Z U.heap x ST) (V : RoadKit.Fld Z U.heap x ST "value" "[B" (.ref t)) (C : RoadKit.Fld Z U.heap x ST "coder" "B" (.int cd)) (K : RoadKit.Arv Z U.heap t kb .byte N2 vs (.int 0)) (hc : CodA cs cd N2 vs) (hb : ∀ c ∈ cs, ¬ c < 0 ∧ ¬ (65535 : Int32) < c) (l2 : cs.length ≤ 4000) :
    ∃ A, Txt x t A cd cs.length (fun j => cs.getD j 0) U := by
  obtain ⟨A, K1, K2, K3, K4, K5, K6⟩ := K
  have hcod := hc.cod (by omega) K3 K5
  obtain ⟨D, fV, fC, hB, F1, F2, g1, g2, -, -⟩ := strObj wi al E V C
  exact ⟨A, ⟨_, hB.2.2.1, D, hB.1, rfl, by cases q : D.vm <;> first | rfl | exact absurd q (hB.2.1.2 _)⟩, Has.of hB F1 g1, Has.of hB F2 g2, ⟨K1.1, State.isArrayOf_alike al K1.2.1, K1.2.2, by rcases hcod with ⟨-, q, -⟩ | ⟨-, q, -⟩ <;> omega⟩, hcod, fun j hj => by
    have e : cs.getD j 0 = cs[j] := by simp [List.getD_eq_getElem?_getD, hj]
    show ¬ cs.getD j 0 < 0 ∧ ¬ 65535 < cs.getD j 0
    rw [e]; exact hb _ (List.getElem_mem _)⟩
theorem same_list (cs ds : List Int32) : SameT cs.length (fun j => cs.getD j 0) ds.length (fun j => ds.getD j 0) ↔ cs = ds := by
  constructor
  · rintro ⟨e, q⟩
    refine List.ext_getElem e fun j h1 h2 => ?_
    have := q j h1
    simpa [List.getD_eq_getElem?_getD, h1, h2] using this
  · rintro rfl
    exact ⟨rfl, fun _ _ => rfl⟩
/-- **equals(Object) OF TWO SUCH STRINGS**: 1 just where the chars are the same -/
theorem eqW {p : Program} {l : Launch} {e : Env} {R : Room} {s : State} {args : Array Value} {below : List Frame} {len W : Nat} {Z : State} {a0 : Array Value} {h : Heap} (hZ : Z.Warmed39 s.vm) (hw : ∀ d ∈ wordsEq, d.before a0 Z = true) {kI : Nat} (wi : (Jvm.Cond.instantiable ST kI).before a0 Z = true)
    {x t : Addr} {kb : ClassId} {cs : List Int32} {cd N2 : Int32} {vs : List Value} (E : RoadKit.Exa Z h x ST) (V : RoadKit.Fld Z h x ST "value" "[B" (.ref t)) (C : RoadKit.Fld Z h x ST "coder" "B" (.int cd)) (K : RoadKit.Arv Z h t kb .byte N2 vs (.int 0)) (hc : CodA cs cd N2 vs) (hb : ∀ c ∈ cs, ¬ c < 0 ∧ ¬ (65535 : Int32) < c) (l2 : cs.length ≤ 4000)
    {y t' : Addr} {kb' : ClassId} {ds : List Int32} {cd' N2' : Int32} {vs' : List Value} (E' : RoadKit.Exa Z h y ST) (V' : RoadKit.Fld Z h y ST "value" "[B" (.ref t')) (C' : RoadKit.Fld Z h y ST "coder" "B" (.int cd')) (K' : RoadKit.Arv Z h t' kb' .byte N2' vs' (.int 0)) (hc' : CodA ds cd' N2' vs') (hb' : ∀ c ∈ ds, ¬ c < 0 ∧ ¬ (65535 : Int32) < c) (l2' : ds.length ≤ 4000)
    {z : Int32} (S : RoadKit.Sta Z h ST "COMPACT_STRINGS" "Z" (.int z)) (hz : ¬ z = 0) (hfr : 2 ≤ R.frames) (hlo : W + 28 ≤ R.locals) :
    Back l R p e below s args (⟨"java/lang/String", "equals", "(Ljava/lang/Object;)Z"⟩ : MethodName) len W (fun P a => a = #[.ref x, .ref y] ∧ P.U.heap = h ∧ P.cells + 0 ≤ R.cells ∧ P.slots + 0 ≤ R.slots)
      (fun P _ v B => ∃ L, (((v = some (.int 1) ∧ cs = ds) ∨ (v = some (.int 0) ∧ ¬ cs = ds)) ∧ L = [] ∧ B.U.heap = h) ∧ B.locs = P.locs ++ L ∧ B.cells = P.cells + 0 ∧ B.slots = P.slots + 0) := by
  intro m meth c P g ig mk a X hg hsize hdg hW hn hp'
  obtain ⟨rfl, rfl, r1, r2⟩ := hp'
  have al : Z.vm.Alike P.U.vm := hZ.alike.trans X.warmed.alike
  obtain ⟨A, hx⟩ := txt_of wi al E V C K hc hb l2
  obtain ⟨A', hy⟩ := txt_of wi al E' V' C' K' hc' hb' l2'
  obtain ⟨v, B, X', ⟨⟨w, hv, hh, hq⟩, hl, hk, hs⟩, st⟩ := SEq.pays x t A cd cs.length (fun j => cs.getD j 0) y t' A' cd' ds.length (fun j => ds.getD j 0) z (tabEq_of (movedEq hZ hw)) hfr hlo m meth c P g ig mk _ X hg hsize hdg hW hn ⟨r1, r2, rfl, hx, hy, sta_is al S, hz⟩
  refine ⟨v, B, X', ⟨[], ⟨?_, rfl, hh⟩, hl, hk, hs⟩, st⟩
  rcases hq with ⟨rfl, q⟩ | ⟨rfl, q⟩
  · exact Or.inl ⟨hv, (same_list cs ds).mp q⟩
  · exact Or.inr ⟨hv, fun e => q ((same_list cs ds).mpr e)⟩
end StrChars.Road
namespace StrChars.Road
open Jvm Sem ClassFile Op Lib Jvm.Stand Jvm.Free Jvm.Free.XT
open Jvm.Lib.Cold (StaticIs)
/-- what backV says of its String, as the contracts of this text ask it: cs's low bytes, coder 0 -/
theorem codOf {cs : List Int32} {n : Nat} (hn : cs.length = n) (hb : ∀ c ∈ cs, ¬ 255 < c) : CodA cs 0 (Int32.ofNat n) ((cs.map lo8).map Value.int) := Or.inl ⟨rfl, by rw [hn], by simp [List.map_map, Function.comp_def], hb⟩
end StrChars.Road
end Jvm.Pilot.@@N@@

namespace Jvm.Pilot.@@N@@
open Jvm Jvm.ClassFile Sem Op Lib Jvm.Free Jvm.Stand Jvm.LawKit Jvm.RoadKit Bundle Jvm.Pilot.@@N@@.Jvm.D
abbrev own_At (p : Program) (e : Env) (below : List Frame) (m : MethodId) (T : State) (pc : Nat) (ls : Array Slot) (st : List Value) (t : State) : Prop := Steps p.tables e below (T.setTop (mkF m pc ls st)) t
abbrev own_En (p : Program) (e : Env) (below : List Frame) (m : MethodId) (T : State) (a : Array Value) (n : Nat) (t : State) : Prop := Steps p.tables e below (T.setTop (entryFrame m a n)) t
theorem own_w {a0 : Array Value} {Z : State} (hw : ∀ d ∈ tables_1, d.before a0 Z = true) (i : Nat) {d : Jvm.Cond} (h : tables_1[i]? = some d) : d.before a0 Z = true := hw d (List.mem_of_getElem? h)
theorem own_eqI {t : Term} {k : Int32} {args : Array Value} {s : State} (h : (Jvm.Cond.eq t (.int k)).value args s none s [] = some true) : t.eval args s none [] s = some (.int k) := by
  have e : (Term.int k).eval args s none [] s = some (.int k) := rfl
  simp only [Cond.value, e] at h
  cases ht : t.eval args s none [] s with
  | none => simp [ht] at h
  | some x => cases x <;> simp [ht] at h ⊢; exact h
theorem own_neI {t : Term} {k z : Int32} {args : Array Value} {s : State} (e : t.eval args s none [] s = some (.int z)) (h : (Jvm.Cond.not (Jvm.Cond.eq t (.int k))).value args s none s [] = some true) : ¬ (z = k) := by
  have q := not_v h
  have e2 : (Term.int k).eval args s none [] s = some (.int k) := rfl
  simp only [Cond.value, e, e2, Bool.not_true, Option.some.injEq, decide_eq_false_iff_not] at q
  exact q
theorem own_neR {t u : Term} {a b : Addr} {args : Array Value} {s : State} (ea : t.eval args s none [] s = some (.ref a)) (eb : u.eval args s none [] s = some (.ref b)) (h : (Jvm.Cond.not (Jvm.Cond.eq t u)).value args s none s [] = some true) : ¬ (a = b) := by
  have q := not_v h
  rw [eq_R ea eb rfl rfl] at q
  intro e
  rw [e] at q
  simp at q
theorem own_eqJ {t : Term} {k : Int64} {args : Array Value} {s : State} (h : (Jvm.Cond.eq t (.long k)).value args s none s [] = some true) : t.eval args s none [] s = some (.long k) := by
  have e : (Term.long k).eval args s none [] s = some (.long k) := rfl
  simp only [Cond.value, e] at h
  cases ht : t.eval args s none [] s with
  | none => simp [ht] at h
  | some x => cases x <;> simp [ht] at h ⊢; exact h
theorem own_len {t : Term} {n : Int32} {a : Addr} {cl : Cell} {ty : FieldType} {args : Array Value} {s : State} (ev : t.eval args s none [] s = some (.ref a)) (A : Arr s s.heap a cl ty) (h : (Jvm.Cond.eq (.length t) (.int n)).value args s none s [] = some true) : cl.slots.size < 2 ^ 31 ∧ cl.slots.size.toInt32 = n := by
  have q := own_eqI h
  have hA := A.fin (Vm.Alike.refl _)
  simp only [Term.eval, ev, hA, Option.bind_eq_bind, Option.bind_some] at q
  split at q
  · rename_i hl
    exact ⟨hl, Value.int.inj (Option.some.inj q)⟩
  · cases q
theorem own_elem {t : Term} {j : Int32} {a : Addr} {v : Value} {cl : Cell} {ty : FieldType} {args : Array Value} {s : State} (ev : t.eval args s none [] s = some (.ref a)) (A : Arr s s.heap a cl ty) (h : (Term.elem t (.int j)).eval args s none [] s = some v) (i : Nat) (hi : j.toNatClampNeg = i) : cl.slots[i]? = some v := by
  have q := (elem_in h ev (rfl : (Term.int j).eval args s none [] s = some (.int j)) A.1).2
  rw [hi] at q; exact q
/-- an array as it stood at the start, that may be cloned -/
def own_Cln (Z : State) (h : Heap) (a : Addr) (ty : FieldType) (n : Int32) (vs : List Value) (d : Value) : Prop := ∃ c : Cell, Arr Z h a c ty ∧ FitC Z c ∧ c.slots.size = n.toNatClampNeg ∧ ¬ n < 0 ∧ Has c vs d ∧ ∀ i, i < c.slots.size → fits ty (vs.getD i d) = true
theorem own_Cln.ext {Z : State} {h h' : Heap} {a : Addr} {ty : FieldType} {n : Int32} {vs : List Value} {d : Value} (F : own_Cln Z h a ty n vs d) (E : Ext h h') : own_Cln Z h' a ty n vs d := by
  obtain ⟨c, A, r⟩ := F; exact ⟨c, A.ext E, r⟩
theorem own_Cln.start {Z : State} {a : Addr} {cl : Cell} {ty : FieldType} {z : Int32} {vs : List Value} {dv : Value} (hf : Fit Z) (A : Arr Z Z.heap a cl ty) (q : cl.slots.size < 2 ^ 31 ∧ cl.slots.size.toInt32 = z) (hz : ¬ z < 0) (hl : z.toNatClampNeg = vs.length) (H : HasL cl 0 vs) : own_Cln Z Z.heap a ty z vs dv := by
  have S : cl.slots.size = z.toNatClampNeg := by rw [← q.2]; simp only [Int32.toNatClampNeg, len_toInt q.1]; rfl
  have H' : Has cl vs dv := fun j hj => by have := HasL.at (dv := dv) vs 0 H j (by rw [← hl, ← S]; exact hj); rwa [Nat.zero_add] at this
  refine ⟨cl, A, FitC.start hf A, S, hz, H', fun j hj => ?_⟩
  have e1 : (Nat.toInt32 j).toNatClampNeg = j := by simp only [Int32.toNatClampNeg, len_toInt (Nat.lt_trans hj q.1)]; rfl
  exact elem_fits (j := Nat.toInt32 j) hf A (idx_in hj q.1) (by rw [e1]; exact H' j hj)
theorem own_Cln.arv {Z : State} {h : Heap} {a : Addr} {ty : FieldType} {n : Int32} {vs : List Value} {d : Value} (F : own_Cln Z h a ty n vs d) : ∃ k, Arv Z h a k ty n vs d := by
  obtain ⟨c, A, -, r⟩ := F; exact ⟨c.cls, c, A, rfl, r⟩
theorem own_eqR {t u : Term} {b : Addr} {args : Array Value} {s : State} (h : (Jvm.Cond.eq t u).value args s none s [] = some true) (e : u.eval args s none [] s = some (.ref b)) : t.eval args s none [] s = some (.ref b) := by
  simp only [Cond.value, e] at h
  cases ht : t.eval args s none [] s with
  | none => simp [ht] at h
  | some x => cases x <;> simp [ht] at h ⊢; exact h
theorem own_dup2L {tb : Tables} [Ours tb] {e : Env} {below : List Frame} {T target : State} {m : MethodId} {c : Code} {g : JFrame} (h : At T m c below) (hx : tb.exec = Jvm.exec) (hg : g.method = m) {x : Int64} {rest : List Value} (hd : decode c.code g.pc = .ok (.dup2, 1)) (hs : g.stack = .long x :: rest) (hr : Steps tb e below (T.setTop { g with pc := g.pc + 1, stack := .long x :: .long x :: rest }) target) : Steps tb e below (T.setTop g) target := by
  subst hg
  jvm_step h [h.top, hx, hd, hs, Value.category]
  exact hr
theorem own_hws {Z : State} {a0 : Array Value} (hw : ∀ d ∈ tables_1, d.before a0 Z = true) : ∀ d ∈ StrChars.Road.words, d.before a0 Z = true := fun d hd => hw d ((by decide +kernel : ∀ d ∈ StrChars.Road.words, d ∈ tables_1) d hd)
theorem own_heq {Z : State} {a0 : Array Value} (hw : ∀ d ∈ tables_1, d.before a0 Z = true) : ∀ d ∈ StrChars.Road.wordsEq, d.before a0 Z = true := fun d hd => hw d ((by decide +kernel : ∀ d ∈ StrChars.Road.wordsEq, d ∈ tables_1) d hd)
def EV (Z : State) (a_DOMAIN : Addr) (a__VALUES : Addr) (a_PERSON : Addr) (a_OBJECT : Addr) (a_DOMAIN_word : Addr) (a_DOMAIN_word_value : Addr) (a_PERSON_word : Addr) (a_PERSON_word_value : Addr) (a_OBJECT_word : Addr) (a_OBJECT_word_value : Addr) (z_COMPACT_STRINGS : Int32) (r_SIOOBE_FORMATTER : Value) : Prop := Sta Z Z.heap "com/example/scoped_authority/scopedauthority/Kind" "DOMAIN" "Lcom/example/scoped_authority/scopedauthority/Kind;" (.ref a_DOMAIN) ∧ Exa Z Z.heap a_DOMAIN "com/example/scoped_authority/scopedauthority/Kind" ∧ Sta Z Z.heap "com/example/scoped_authority/scopedauthority/Kind" "$VALUES" "[Lcom/example/scoped_authority/scopedauthority/Kind;" (.ref a__VALUES) ∧ Exa Z Z.heap a__VALUES "[Lcom/example/scoped_authority/scopedauthority/Kind;" ∧ Sta Z Z.heap "com/example/scoped_authority/scopedauthority/Kind" "PERSON" "Lcom/example/scoped_authority/scopedauthority/Kind;" (.ref a_PERSON) ∧ Exa Z Z.heap a_PERSON "com/example/scoped_authority/scopedauthority/Kind" ∧ Sta Z Z.heap "com/example/scoped_authority/scopedauthority/Kind" "OBJECT" "Lcom/example/scoped_authority/scopedauthority/Kind;" (.ref a_OBJECT) ∧ Exa Z Z.heap a_OBJECT "com/example/scoped_authority/scopedauthority/Kind" ∧ Fld Z Z.heap a_DOMAIN "com/example/scoped_authority/scopedauthority/Kind" "word" "Ljava/lang/String;" (.ref a_DOMAIN_word) ∧ Exa Z Z.heap a_DOMAIN_word "java/lang/String" ∧ Fld Z Z.heap a_DOMAIN_word "java/lang/String" "coder" "B" (.int (0 : Int32)) ∧ Fld Z Z.heap a_DOMAIN_word "java/lang/String" "value" "[B" (.ref a_DOMAIN_word_value) ∧ Fld Z Z.heap a_PERSON "com/example/scoped_authority/scopedauthority/Kind" "word" "Ljava/lang/String;" (.ref a_PERSON_word) ∧ Exa Z Z.heap a_PERSON_word "java/lang/String" ∧ Fld Z Z.heap a_PERSON_word "java/lang/String" "coder" "B" (.int (0 : Int32)) ∧ Fld Z Z.heap a_PERSON_word "java/lang/String" "value" "[B" (.ref a_PERSON_word_value) ∧ Fld Z Z.heap a_OBJECT "com/example/scoped_authority/scopedauthority/Kind" "word" "Ljava/lang/String;" (.ref a_OBJECT_word) ∧ Exa Z Z.heap a_OBJECT_word "java/lang/String" ∧ Fld Z Z.heap a_OBJECT_word "java/lang/String" "coder" "B" (.int (0 : Int32)) ∧ Fld Z Z.heap a_OBJECT_word "java/lang/String" "value" "[B" (.ref a_OBJECT_word_value) ∧ ¬ (a_DOMAIN_word = a_OBJECT_word) ∧ ¬ (a_OBJECT_word = a_PERSON_word) ∧ ¬ (a_DOMAIN_word = a_PERSON_word) ∧ Sta Z Z.heap "java/lang/String" "COMPACT_STRINGS" "Z" (.int z_COMPACT_STRINGS) ∧ ¬ (z_COMPACT_STRINGS = (0 : Int32)) ∧ Sta Z Z.heap "jdk/internal/util/Preconditions" "SIOOBE_FORMATTER" "Ljava/util/function/BiFunction;" r_SIOOBE_FORMATTER ∧ r_SIOOBE_FORMATTER.isRef = true ∧ own_Cln Z Z.heap a__VALUES (.object "com/example/scoped_authority/scopedauthority/Kind") (3 : Int32) [(.ref a_DOMAIN), (.ref a_PERSON), (.ref a_OBJECT)] .null ∧ own_Cln Z Z.heap a_DOMAIN_word_value .byte (6 : Int32) [(.int (100 : Int32)), (.int (111 : Int32)), (.int (109 : Int32)), (.int (97 : Int32)), (.int (105 : Int32)), (.int (110 : Int32))] (.int (0 : Int32)) ∧ own_Cln Z Z.heap a_PERSON_word_value .byte (6 : Int32) [(.int (112 : Int32)), (.int (101 : Int32)), (.int (114 : Int32)), (.int (115 : Int32)), (.int (111 : Int32)), (.int (110 : Int32))] (.int (0 : Int32)) ∧ own_Cln Z Z.heap a_OBJECT_word_value .byte (6 : Int32) [(.int (111 : Int32)), (.int (98 : Int32)), (.int (106 : Int32)), (.int (101 : Int32)), (.int (99 : Int32)), (.int (116 : Int32))] (.int (0 : Int32))
theorem ef_vals (m : MethodId)   : entryFrame m #[] 0 = mkF m 0 #[] [] := by first | (simp [entryFrame, mkF, argsToLocals, Value.category]; done) | rfl
theorem d_prog_32_method_1_code_0 : decode prog_32_method_1_code 0 = .ok (.getstatic 13, 3) := by decide +kernel
theorem d_prog_32_method_1_code_3 : decode prog_32_method_1_code 3 = .ok (.invokevirtual 17, 3) := by decide +kernel
theorem d_prog_32_method_1_code_6 : decode prog_32_method_1_code 6 = .ok (.checkcast 18, 3) := by decide +kernel
theorem d_prog_32_method_1_code_9 : decode prog_32_method_1_code 9 = .ok (.areturn, 1) := by decide +kernel
theorem pn_com_example_scoped_authority_scopedauthority_Kind : plainName "com/example/scoped_authority/scopedauthority/Kind" = true := by first | (simp [plainName, overriddenIn]; done) | decide +kernel
abbrev own_m0 : MethodName := ⟨"com/example/scoped_authority/scopedauthority/Kind", "values", "()[Lcom/example/scoped_authority/scopedauthority/Kind;"⟩
def Q_vals (Z : State) (a_DOMAIN : Addr) (a__VALUES : Addr) (a_PERSON : Addr) (a_OBJECT : Addr) (a_DOMAIN_word : Addr) (a_DOMAIN_word_value : Addr) (a_PERSON_word : Addr) (a_PERSON_word_value : Addr) (a_OBJECT_word : Addr) (a_OBJECT_word_value : Addr) (z_COMPACT_STRINGS : Int32) (r_SIOOBE_FORMATTER : Value) (h0 : Heap) (n0 : Nat) (v : Option Value) (h : Heap) (L : List Loc) : Prop := ∃ (b : Addr) (k : ClassId), v = some (.ref b) ∧ Fr n0 L ∧ Old Z n0 h ∧ Keep h0 h [] ∧ n0 ≤ b ∧ h0.size ≤ b ∧ Arv Z h b k (.object "com/example/scoped_authority/scopedauthority/Kind") (3 : Int32) [(.ref a_DOMAIN), (.ref a_PERSON), (.ref a_OBJECT)] .null
set_option maxRecDepth 65536 in
set_option maxHeartbeats 40000000 in
theorem rm_vals (l : Launch) (Z : State) (a0 : Array Value) (hw : ∀ d ∈ tables_1, d.before a0 Z = true) (ws : List Jvm.Cond) (a_DOMAIN : Addr) (a__VALUES : Addr) (a_PERSON : Addr) (a_OBJECT : Addr) (a_DOMAIN_word : Addr) (a_DOMAIN_word_value : Addr) (a_PERSON_word : Addr) (a_PERSON_word_value : Addr) (a_OBJECT_word : Addr) (a_OBJECT_word_value : Addr) (z_COMPACT_STRINGS : Int32) (r_SIOOBE_FORMATTER : Value) (h0 : Heap) (n0 : Nat) (O0 : Old Z n0 h0) (hE : EV Z a_DOMAIN a__VALUES a_PERSON a_OBJECT a_DOMAIN_word a_DOMAIN_word_value a_PERSON_word a_PERSON_word_value a_OBJECT_word a_OBJECT_word_value z_COMPACT_STRINGS r_SIOOBE_FORMATTER) :
    MetFree l own_m0 (head1 (Jvm.Cond.code own_m0 prog_32_method_1_code 0 (some (.array (.object "com/example/scoped_authority/scopedauthority/Kind"))) :: ws) ({ frames := 1, cells := 1, slots := 3, locals := 14 } : Room)) (fun a U => a = #[] ∧ Z.Warmed39 U.vm ∧ U.heap = h0) (fun _ _ _ _ _ => True) (fun _ U o U' => ∃ v L, o = .returned v ∧ Q_vals Z a_DOMAIN a__VALUES a_PERSON a_OBJECT a_DOMAIN_word a_DOMAIN_word_value a_PERSON_word a_PERSON_word_value a_OBJECT_word a_OBJECT_word_value z_COMPACT_STRINGS r_SIOOBE_FORMATTER h0 n0 v U'.heap L ∧ FrameEnd U o U' L ({ frames := 1, cells := 1, slots := 3, locals := 14 } : Room).cells ({ frames := 1, cells := 1, slots := 3, locals := 14 } : Room).slots) := by
  refine MetFree.of_bodySF (plainFor_of_name pn_com_example_scoped_authority_scopedauthority_Kind) hisR ?_
  intro p e s m args below meth c s₁ Bd hml0 hP hK
  obtain ⟨rfl, hZ, hh⟩ := hP
  have hx := Bd.exec
  have hby := Bd.bytes
  have hml : c.maxLocals = 0 := hml0
  have hown : s.vm.findClass "com/example/scoped_authority/scopedauthority/Kind" = some m.cls := findClass_of_methodNamed Bd.named
  have hnm := (name_of_methodNamed Bd.named Bd.method).1
  have X00 : Stand p l e ({ frames := 1, cells := 1, slots := 3, locals := 14 } : Room) s m #[] below meth c s₁ [] 0 0 := Stand.of_body Bd
  have e00 : s₁.heap = h0 := by rw [← hh, Bd.state]; rfl
  have N00 := Fr.nil n0
  refine Classical.byContradiction fun hNG => ?_
  have K00 := Keep.refl h0 []
  have k00 : ∀ t, own_At p e below m s₁ 0 #[] [] t → own_En p e below m s₁ #[] 0 t := fun t k => castTop (ef_vals m  ) k
  obtain ⟨S_DOMAIN, E_DOMAIN, S__VALUES, E__VALUES, S_PERSON, E_PERSON, S_OBJECT, E_OBJECT, F_DOMAIN_word, E_DOMAIN_word, F_DOMAIN_word_coder, F_DOMAIN_word_value, F_PERSON_word, E_PERSON_word, F_PERSON_word_coder, F_PERSON_word_value, F_OBJECT_word, E_OBJECT_word, F_OBJECT_word_coder, F_OBJECT_word_value, ne_DOMAIN_word_OBJECT_word, ne_OBJECT_word_PERSON_word, ne_DOMAIN_word_PERSON_word, S_COMPACT_STRINGS, nz_COMPACT_STRINGS, S_SIOOBE_FORMATTER, iS_SIOOBE_FORMATTER, C__VALUES, C_DOMAIN_word_value, C_PERSON_word_value, C_OBJECT_word_value⟩ := (id hE : EV Z a_DOMAIN a__VALUES a_PERSON a_OBJECT a_DOMAIN_word a_DOMAIN_word_value a_PERSON_word a_PERSON_word_value a_OBJECT_word a_OBJECT_word_value z_COMPACT_STRINGS r_SIOOBE_FORMATTER)
  obtain ⟨T10, X10, e10, st10⟩ := getS2 X00 hx hZ hown (host := "") (Or.inl (own_w hw 40 rfl)) Via.refl e00 (S__VALUES.ext O0.2) (g := (mkF m 0 #[] [])) rfl (hb hby d_prog_32_method_1_code_0)
  obtain ⟨cl11, Ar11, Fc11, Sz11, Nn11, Hs11, Gf11⟩ := own_Cln.ext C__VALUES O0.2
  obtain ⟨T12, h12, X12, e12, E12, A12, Ex12, st12⟩ := cloneA X10 hx hZ hown (own_w hw 42 rfl) (own_w hw 43 rfl) (own_w hw 47 rfl) (own_w hw 45 rfl) (own_w hw 46 rfl) (own_w hw 48 rfl) e10 Ar11 (E__VALUES.ext O0.2) Fc11 (g := (mkF m 3 #[] [(.ref a__VALUES)])) rfl (by rw [hml]; rfl) rfl (hb hby d_prog_32_method_1_code_3) (by decide) (W := 0) (cap := 3) (by show 2 * 0 + _ ≤ _; exact Nat.le_of_eq rfl) (by decide) (by rw [Sz11]; decide) (by decide) (by decide)
  obtain ⟨b12, g12⟩ : ∃ z, z = h0.size := ⟨_, rfl⟩
  rw [← g12] at A12 Ex12 st12
  have O12 := O0.ext E12
  have g_b12 : n0 ≤ b12 := Nat.le_trans (Nat.le_of_eq O0.1.symm) (Nat.le_trans O0.2.1 (Nat.le_of_eq g12.symm))
  have s_b12 : h0.size ≤ b12 := Nat.le_trans K00.1 (Nat.le_of_eq g12.symm)
  have K12 := K00.ext E12
  have V12 : Arv Z h12 b12 cl11.cls (.object "com/example/scoped_authority/scopedauthority/Kind") (3 : Int32) [(.ref a_DOMAIN), (.ref a_PERSON), (.ref a_OBJECT)] .null := ⟨cloneOf cl11, A12, rfl, Sz11, Nn11, Hs11, Gf11⟩
  have lt_b12 := V12.lt
  obtain ⟨T13, X13, e13, st13⟩ := castY X12 hx hZ hown (own_w hw 52 rfl) e12 (Ins.self Ex12) (g := (mkF m 6 #[] [(.ref b12)])) rfl rfl (hb hby d_prog_32_method_1_code_6)
  have k14 : ∀ t, own_At p e below m T13 9 #[] [(.ref b12)] t → own_En p e below m s₁ #[] 0 t := by
    intro t k
    refine k00 t ?_
    refine st10 _ ?_
    show own_At p e below m T10 3 #[] [(.ref a__VALUES)] t
    refine st12 _ ?_
    show own_At p e below m T12 6 #[] [(.ref b12)] t
    refine st13 _ ?_
    show own_At p e below m T13 9 #[] [(.ref b12)] t
    exact k
  obtain ⟨fs, hr, hrun, hended, hW, hsame⟩ := X13.leave (v := some (.ref b12)) (fun h => by rw [Bd.returns] at h; cases h)
  refine hNG ⟨_, _, k14 _ ?_, hrun, hended, _, _, rfl, ?_, ⟨_, rfl⟩, hW, hsame.mono (by decide) (by decide)⟩
  · exact retOut X13 hx (t := (.array (.object "com/example/scoped_authority/scopedauthority/Kind"))) Bd.returns rfl (Or.inr (Or.inr (Or.inr (Or.inr ⟨rfl, rfl, rfl⟩)))) (hb hby d_prog_32_method_1_code_9) hr
  · show Q_vals Z a_DOMAIN a__VALUES a_PERSON a_OBJECT a_DOMAIN_word a_DOMAIN_word_value a_PERSON_word a_PERSON_word_value a_OBJECT_word a_OBJECT_word_value z_COMPACT_STRINGS r_SIOOBE_FORMATTER h0 n0 _ T13.heap _
    rw [e13]
    exact ⟨b12, cl11.cls, rfl, N00, O12, K12, g_b12, s_b12, V12⟩
theorem own_up (cs : List Int32) (h : ∀ c ∈ cs, ¬ c < 0 ∧ ¬ (255 : Int32) < c) : ∀ c ∈ cs, ¬ c < 0 ∧ ¬ (65535 : Int32) < c := fun c hc => ⟨(h c hc).1, fun q => (h c hc).2 (by rw [Int32.lt_iff_toInt_lt] at q ⊢; have e1 : (65535 : Int32).toInt = 65535 := rfl; have e2 : (255 : Int32).toInt = 255 := rfl; omega)⟩
theorem own_bd_DOMAIN : ∀ c ∈ ([(100 : Int32), (111 : Int32), (109 : Int32), (97 : Int32), (105 : Int32), (110 : Int32)] : List Int32), ¬ c < 0 ∧ ¬ (255 : Int32) < c := by decide
theorem own_cd_DOMAIN : StrChars.Road.CodA ([(100 : Int32), (111 : Int32), (109 : Int32), (97 : Int32), (105 : Int32), (110 : Int32)] : List Int32) 0 (6 : Int32) [(.int (100 : Int32)), (.int (111 : Int32)), (.int (109 : Int32)), (.int (97 : Int32)), (.int (105 : Int32)), (.int (110 : Int32))] := StrChars.Road.codOf (cs := ([(100 : Int32), (111 : Int32), (109 : Int32), (97 : Int32), (105 : Int32), (110 : Int32)] : List Int32)) (n := 6) rfl (fun c hc => (own_bd_DOMAIN c hc).2)
theorem own_bd_PERSON : ∀ c ∈ ([(112 : Int32), (101 : Int32), (114 : Int32), (115 : Int32), (111 : Int32), (110 : Int32)] : List Int32), ¬ c < 0 ∧ ¬ (255 : Int32) < c := by decide
theorem own_cd_PERSON : StrChars.Road.CodA ([(112 : Int32), (101 : Int32), (114 : Int32), (115 : Int32), (111 : Int32), (110 : Int32)] : List Int32) 0 (6 : Int32) [(.int (112 : Int32)), (.int (101 : Int32)), (.int (114 : Int32)), (.int (115 : Int32)), (.int (111 : Int32)), (.int (110 : Int32))] := StrChars.Road.codOf (cs := ([(112 : Int32), (101 : Int32), (114 : Int32), (115 : Int32), (111 : Int32), (110 : Int32)] : List Int32)) (n := 6) rfl (fun c hc => (own_bd_PERSON c hc).2)
theorem own_bd_OBJECT : ∀ c ∈ ([(111 : Int32), (98 : Int32), (106 : Int32), (101 : Int32), (99 : Int32), (116 : Int32)] : List Int32), ¬ c < 0 ∧ ¬ (255 : Int32) < c := by decide
theorem own_cd_OBJECT : StrChars.Road.CodA ([(111 : Int32), (98 : Int32), (106 : Int32), (101 : Int32), (99 : Int32), (116 : Int32)] : List Int32) 0 (6 : Int32) [(.int (111 : Int32)), (.int (98 : Int32)), (.int (106 : Int32)), (.int (101 : Int32)), (.int (99 : Int32)), (.int (116 : Int32))] := StrChars.Road.codOf (cs := ([(111 : Int32), (98 : Int32), (106 : Int32), (101 : Int32), (99 : Int32), (116 : Int32)] : List Int32)) (n := 6) rfl (fun c hc => (own_bd_OBJECT c hc).2)
theorem ef_fw_DOMAIN (m : MethodId) (x0 : Addr)  : entryFrame m #[(.ref x0)] 5 = mkF m 0 #[.val (.ref x0), .unset, .unset, .unset, .unset] [] := by first | (simp [entryFrame, mkF, argsToLocals, Value.category]; done) | rfl
theorem d_prog_32_method_4_code_0 : decode prog_32_method_4_code 0 = .ok (.invokestatic 39, 3) := by decide +kernel
theorem pd____Lcom_example_scoped_authority_scopedauthority_Kind_ : parseMethodDescriptor "()[Lcom/example/scoped_authority/scopedauthority/Kind;" = some ⟨[], some (.array (.object "com/example/scoped_authority/scopedauthority/Kind"))⟩ := by decide +kernel
theorem d_prog_32_method_4_code_3 : decode prog_32_method_4_code 3 = .ok (.astore_n 1, 1) := by decide +kernel
theorem d_prog_32_method_4_code_4 : decode prog_32_method_4_code 4 = .ok (.aload_n 1, 1) := by decide +kernel
theorem d_prog_32_method_4_code_5 : decode prog_32_method_4_code 5 = .ok (.arraylength, 1) := by decide +kernel
theorem d_prog_32_method_4_code_6 : decode prog_32_method_4_code 6 = .ok (.istore_n 2, 1) := by decide +kernel
theorem d_prog_32_method_4_code_7 : decode prog_32_method_4_code 7 = .ok (.iconst 0, 1) := by decide +kernel
theorem d_prog_32_method_4_code_8 : decode prog_32_method_4_code 8 = .ok (.istore_n 3, 1) := by decide +kernel
theorem d_prog_32_method_4_code_9 : decode prog_32_method_4_code 9 = .ok (.iload_n 3, 1) := by decide +kernel
theorem d_prog_32_method_4_code_10 : decode prog_32_method_4_code 10 = .ok (.iload_n 2, 1) := by decide +kernel
theorem d_prog_32_method_4_code_11 : decode prog_32_method_4_code 11 = .ok (.if_icmp .ge 29, 3) := by decide +kernel
theorem d_prog_32_method_4_code_14 : decode prog_32_method_4_code 14 = .ok (.aload_n 1, 1) := by decide +kernel
theorem d_prog_32_method_4_code_15 : decode prog_32_method_4_code 15 = .ok (.iload_n 3, 1) := by decide +kernel
theorem d_prog_32_method_4_code_16 : decode prog_32_method_4_code 16 = .ok (.aaload, 1) := by decide +kernel
theorem d_prog_32_method_4_code_17 : decode prog_32_method_4_code 17 = .ok (.astore 4, 2) := by decide +kernel
theorem d_prog_32_method_4_code_19 : decode prog_32_method_4_code 19 = .ok (.aload 4, 2) := by decide +kernel
theorem d_prog_32_method_4_code_21 : decode prog_32_method_4_code 21 = .ok (.getfield 32, 3) := by decide +kernel
theorem d_prog_32_method_4_code_24 : decode prog_32_method_4_code 24 = .ok (.aload_n 0, 1) := by decide +kernel
theorem d_prog_32_method_4_code_25 : decode prog_32_method_4_code 25 = .ok (.invokevirtual 43, 3) := by decide +kernel
theorem pd__Ljava_lang_Object__Z : parseMethodDescriptor "(Ljava/lang/Object;)Z" = some ⟨[(.object "java/lang/Object")], some .boolean⟩ := by decide +kernel
abbrev own_m1 : MethodName := ⟨"java/lang/String", "equals", "(Ljava/lang/Object;)Z"⟩
theorem d_prog_32_method_4_code_28 : decode prog_32_method_4_code 28 = .ok (.ifCond .eq 6, 3) := by decide +kernel
theorem d_prog_32_method_4_code_31 : decode prog_32_method_4_code 31 = .ok (.aload 4, 2) := by decide +kernel
theorem d_prog_32_method_4_code_33 : decode prog_32_method_4_code 33 = .ok (.areturn, 1) := by decide +kernel
abbrev own_m2 : MethodName := ⟨"com/example/scoped_authority/scopedauthority/Kind", "fromWord", "(Ljava/lang/String;)Lcom/example/scoped_authority/scopedauthority/Kind;"⟩
def Q_fw_DOMAIN (Z : State) (q0 : Addr) (t0 : Addr) (k0 : ClassId) (a_DOMAIN : Addr) (a__VALUES : Addr) (a_PERSON : Addr) (a_OBJECT : Addr) (a_DOMAIN_word : Addr) (a_DOMAIN_word_value : Addr) (a_PERSON_word : Addr) (a_PERSON_word_value : Addr) (a_OBJECT_word : Addr) (a_OBJECT_word_value : Addr) (z_COMPACT_STRINGS : Int32) (r_SIOOBE_FORMATTER : Value) (h0 : Heap) (n0 : Nat) (v : Option Value) (h : Heap) (L : List Loc) : Prop := v = some (.ref a_DOMAIN) ∧ Fr n0 L ∧ Old Z n0 h ∧ Keep h0 h []
set_option maxRecDepth 65536 in
set_option maxHeartbeats 40000000 in
theorem rm_fw_DOMAIN (l : Launch) (Z : State) (a0 : Array Value) (hw : ∀ d ∈ tables_1, d.before a0 Z = true) (ws : List Jvm.Cond) (q0 : Addr) (t0 : Addr) (k0 : ClassId) (a_DOMAIN : Addr) (a__VALUES : Addr) (a_PERSON : Addr) (a_OBJECT : Addr) (a_DOMAIN_word : Addr) (a_DOMAIN_word_value : Addr) (a_PERSON_word : Addr) (a_PERSON_word_value : Addr) (a_OBJECT_word : Addr) (a_OBJECT_word_value : Addr) (z_COMPACT_STRINGS : Int32) (r_SIOOBE_FORMATTER : Value) (h0 : Heap) (n0 : Nat) (O0 : Old Z n0 h0) (hE : EV Z a_DOMAIN a__VALUES a_PERSON a_OBJECT a_DOMAIN_word a_DOMAIN_word_value a_PERSON_word a_PERSON_word_value a_OBJECT_word a_OBJECT_word_value z_COMPACT_STRINGS r_SIOOBE_FORMATTER) (P0 : Exa Z h0 q0 "java/lang/String") (P1 : Fld Z h0 q0 "java/lang/String" "coder" "B" (.int (0 : Int32))) (P2 : Fld Z h0 q0 "java/lang/String" "value" "[B" (.ref t0)) (P3 : Arv Z h0 t0 k0 .byte (6 : Int32) [(.int (100 : Int32)), (.int (111 : Int32)), (.int (109 : Int32)), (.int (97 : Int32)), (.int (105 : Int32)), (.int (110 : Int32))] (.int (0 : Int32))) :
    MetFree l own_m2 (head1 (Jvm.Cond.code own_m2 prog_32_method_4_code 5 (some (.object "com/example/scoped_authority/scopedauthority/Kind")) :: ws) ({ frames := 2, cells := 1, slots := 3, locals := 28 } : Room)) (fun a U => a = #[(.ref q0)] ∧ Z.Warmed39 U.vm ∧ U.heap = h0) (fun _ _ _ _ _ => True) (fun _ U o U' => ∃ v L, o = .returned v ∧ Q_fw_DOMAIN Z q0 t0 k0 a_DOMAIN a__VALUES a_PERSON a_OBJECT a_DOMAIN_word a_DOMAIN_word_value a_PERSON_word a_PERSON_word_value a_OBJECT_word a_OBJECT_word_value z_COMPACT_STRINGS r_SIOOBE_FORMATTER h0 n0 v U'.heap L ∧ FrameEnd U o U' L ({ frames := 2, cells := 1, slots := 3, locals := 28 } : Room).cells ({ frames := 2, cells := 1, slots := 3, locals := 28 } : Room).slots) := by
  refine MetFree.of_bodySF (plainFor_of_name pn_com_example_scoped_authority_scopedauthority_Kind) hisR ?_
  intro p e s m args below meth c s₁ Bd hml0 hP hK
  obtain ⟨rfl, hZ, hh⟩ := hP
  have hx := Bd.exec
  have hby := Bd.bytes
  have hml : c.maxLocals = 5 := hml0
  have hown : s.vm.findClass "com/example/scoped_authority/scopedauthority/Kind" = some m.cls := findClass_of_methodNamed Bd.named
  have hnm := (name_of_methodNamed Bd.named Bd.method).1
  have X00 : Stand p l e ({ frames := 2, cells := 1, slots := 3, locals := 28 } : Room) s m #[(.ref q0)] below meth c s₁ [] 0 0 := Stand.of_body Bd
  have e00 : s₁.heap = h0 := by rw [← hh, Bd.state]; rfl
  have N00 := Fr.nil n0
  refine Classical.byContradiction fun hNG => ?_
  have K00 := Keep.refl h0 []
  have k00 : ∀ t, own_At p e below m s₁ 0 #[.val (.ref q0), .unset, .unset, .unset, .unset] [] t → own_En p e below m s₁ #[(.ref q0)] 5 t := fun t k => castTop (ef_fw_DOMAIN m q0 ) k
  obtain ⟨S_DOMAIN, E_DOMAIN, S__VALUES, E__VALUES, S_PERSON, E_PERSON, S_OBJECT, E_OBJECT, F_DOMAIN_word, E_DOMAIN_word, F_DOMAIN_word_coder, F_DOMAIN_word_value, F_PERSON_word, E_PERSON_word, F_PERSON_word_coder, F_PERSON_word_value, F_OBJECT_word, E_OBJECT_word, F_OBJECT_word_coder, F_OBJECT_word_value, ne_DOMAIN_word_OBJECT_word, ne_OBJECT_word_PERSON_word, ne_DOMAIN_word_PERSON_word, S_COMPACT_STRINGS, nz_COMPACT_STRINGS, S_SIOOBE_FORMATTER, iS_SIOOBE_FORMATTER, C__VALUES, C_DOMAIN_word_value, C_PERSON_word_value, C_OBJECT_word_value⟩ := (id hE : EV Z a_DOMAIN a__VALUES a_PERSON a_OBJECT a_DOMAIN_word a_DOMAIN_word_value a_PERSON_word a_PERSON_word_value a_OBJECT_word a_OBJECT_word_value z_COMPACT_STRINGS r_SIOOBE_FORMATTER)
  obtain ⟨kw_DOMAIN, Aw_DOMAIN⟩ := C_DOMAIN_word_value.arv
  obtain ⟨kw_PERSON, Aw_PERSON⟩ := C_PERSON_word_value.arv
  obtain ⟨kw_OBJECT, Aw_OBJECT⟩ := C_OBJECT_word_value.arv
  obtain ⟨_, _, ⟨T10, L10, k10, n10⟩, -, X10, ⟨Lc10, hQ10, l10, y10, z10⟩, st10⟩ := Jvm.LawKit.callS X00 hx (y := own_m0) hown (mvT hZ (own_w hw 37 rfl)) (mvT hZ (own_w hw 38 rfl)) (mvT hZ (own_w hw 3 rfl)) (mvT hZ (own_w hw 39 rfl)) (by decide) (backOf (W := 0) (rm_vals l Z a0 hw []  _ _ _ _ _ _ _ _ _ _ _ _ h0 n0 O0 hE  ) hZ (own_w hw 39 rfl) (own_w hw 3 rfl) (by decide) (by decide)) (g := (mkF m 0 #[.val (.ref q0), .unset, .unset, .unset, .unset] [])) rfl (by rw [hml]; rfl) (argsL := []) (rest := []) (lenOf pd____Lcom_example_scoped_authority_scopedauthority_Kind_ rfl) rfl (by show 2 * 0 + _ ≤ _; exact Nat.le_of_eq rfl) (hb hby d_prog_32_method_4_code_0) (fun _ _ => ⟨rfl, e00, (by decide : 0 + 1 ≤ _), (by decide : 0 + 3 ≤ _)⟩)
  dsimp only [Pt.U, Pt.locs, Pt.cells, Pt.slots] at X10 l10 y10 z10 st10 hQ10
  subst l10 y10 z10
  obtain ⟨b10, k10, rfl, N10q, O10, Kc10, g_b10, gs_b10, F10_0⟩ := hQ10
  have N10 := Fr.app N00 N10q
  have K10 := K00.trans Kc10 (fun x hx => nomatch hx)
  have s_b10 := Nat.le_trans K00.1 gs_b10
  have lt_b10 := F10_0.lt
  obtain ⟨cl11, Ar11, q11, Sz11, Nn11, Hs11, Gf11⟩ := id F10_0
  obtain ⟨cl12, Ar12, q12, Sz12, Nn12, Hs12, Gf12⟩ := id F10_0
  have hin13 : ¬ ((0 : Int32) < 0 ∨ cl12.slots.size ≤ ((0 : Int32)).toNatClampNeg) := inb_of Sz12 ⟨by decide, by decide⟩
  have hat14 : cl12.slots[((0 : Int32)).toNatClampNeg]? = some (.ref a_DOMAIN) := Hs12.at hin13 rfl
  obtain ⟨T15, X15, e15, st15⟩ := getF X10 hx hZ hown (host := "") (Or.inl (own_w hw 54 rfl)) Via.refl rfl (F_DOMAIN_word.ext O10.2) (g := (mkF m 21 #[.val (.ref q0), .val (.ref b10), .val (.int (3 : Int32)), .val (.int (0 : Int32)), .val (.ref a_DOMAIN)] [(.ref a_DOMAIN)])) rfl rfl (hb hby d_prog_32_method_4_code_21)
  have f16 := (P0.keep Kc10)
  have f17 := (P2.keep Kc10 List.not_mem_nil)
  have f18 := (P1.keep Kc10 List.not_mem_nil)
  have f19 := (P3.keep Kc10 List.not_mem_nil)
  obtain ⟨cq20, kq20, q20a, q20b, q20c⟩ := isOf hZ e15 (E_DOMAIN_word.ext O10.2)
  obtain ⟨_, _, ⟨T20, L20, k20, n20⟩, -, X20, ⟨Lc20, hQ20, l20, y20, z20⟩, st20⟩ := X15.virtualBack hx (y := own_m1) (z := own_m1) hown (mvT hZ (own_w hw 56 rfl)) (mvT hZ (own_w hw 57 rfl)) (notFace_of_selects (args := #[]) (mvT hZ (own_w hw 59 rfl))) (mvT hZ (own_w hw 59 rfl)) (mvT hZ (own_w hw 58 rfl)) (by decide) (StrChars.Road.eqW (W := 0) hZ (own_heq hw) (kI := 4) (own_w hw 6 rfl) (E_DOMAIN_word.ext O10.2) (F_DOMAIN_word_value.ext O10.2) (F_DOMAIN_word_coder.ext O10.2) (Aw_DOMAIN.ext O10.2) own_cd_DOMAIN (own_up _ own_bd_DOMAIN) (Nat.le_of_ble_eq_true rfl) f16 f17 f18 f19 own_cd_DOMAIN (own_up _ own_bd_DOMAIN) (Nat.le_of_ble_eq_true rfl) (S_COMPACT_STRINGS.ext O10.2) nz_COMPACT_STRINGS (by decide) (by decide)) q20a q20c (g := (mkF m 25 #[.val (.ref q0), .val (.ref b10), .val (.int (3 : Int32)), .val (.int (0 : Int32)), .val (.ref a_DOMAIN)] [(.ref q0), (.ref a_DOMAIN_word)])) rfl (by rw [hml]; rfl) (Steps.refl _) (argsL := [(.ref q0)]) (rest := []) (lenOf pd__Ljava_lang_Object__Z rfl) rfl (by show 2 * 0 + _ ≤ _; exact Nat.le_of_eq rfl) (hb hby d_prog_32_method_4_code_25) (fun _ _ => ⟨rfl, e15, (by decide : 1 + 0 ≤ _), (by decide : 3 + 0 ≤ _)⟩)
  dsimp only [Pt.U, Pt.locs, Pt.cells, Pt.slots] at X20 l20 y20 z20 st20 hQ20
  subst l20 y20 z20
  obtain ⟨hcase20, rfl, hp20⟩ := hQ20
  have N20q : Fr n0 ([] : List Loc) := Fr.nil n0
  have hv20 : _ = some (Value.int 1) := hcase20.elim (fun q => q.1) (fun q => absurd rfl q.2)
  subst hv20
  have N20 := Fr.app N10 N20q
  have k21 : ∀ t, own_At p e below m T20 33 #[.val (.ref q0), .val (.ref b10), .val (.int (3 : Int32)), .val (.int (0 : Int32)), .val (.ref a_DOMAIN)] [(.ref a_DOMAIN)] t → own_En p e below m s₁ #[(.ref q0)] 5 t := by
    intro t k
    refine k00 t ?_
    refine st10 _ ?_
    show own_At p e below m T10 3 #[.val (.ref q0), .unset, .unset, .unset, .unset] [(.ref b10)] t
    refine XS.astoreN X10.here hx rfl (hb hby d_prog_32_method_4_code_3) rfl rfl (l' := #[.val (.ref q0), .val (.ref b10), .unset, .unset, .unset]) rfl ?_
    show own_At p e below m T10 4 #[.val (.ref q0), .val (.ref b10), .unset, .unset, .unset] [] t
    refine XS.aloadN X10.here hx rfl (hb hby d_prog_32_method_4_code_4) rfl rfl ?_
    show own_At p e below m T10 5 #[.val (.ref q0), .val (.ref b10), .unset, .unset, .unset] [(.ref b10)] t
    refine X10.arraylength hx (by exact Ar11.1) (State.isArrayOf_alike hZ.alike Ar11.2.1) (g := (mkF m 5 #[.val (.ref q0), .val (.ref b10), .unset, .unset, .unset] [(.ref b10)])) rfl rfl (hb hby d_prog_32_method_4_code_5) _ ?_
    rw [len_of Sz11 Nn11]
    show own_At p e below m T10 6 #[.val (.ref q0), .val (.ref b10), .unset, .unset, .unset] [(.int (3 : Int32))] t
    refine XS.istoreN X10.here hx rfl (hb hby d_prog_32_method_4_code_6) rfl (l' := #[.val (.ref q0), .val (.ref b10), .val (.int (3 : Int32)), .unset, .unset]) rfl ?_
    show own_At p e below m T10 7 #[.val (.ref q0), .val (.ref b10), .val (.int (3 : Int32)), .unset, .unset] [] t
    refine XS.iconst X10.here hx rfl (hb hby d_prog_32_method_4_code_7) ?_
    show own_At p e below m T10 8 #[.val (.ref q0), .val (.ref b10), .val (.int (3 : Int32)), .unset, .unset] [(.int (0 : Int32))] t
    refine XS.istoreN X10.here hx rfl (hb hby d_prog_32_method_4_code_8) rfl (l' := #[.val (.ref q0), .val (.ref b10), .val (.int (3 : Int32)), .val (.int (0 : Int32)), .unset]) rfl ?_
    show own_At p e below m T10 9 #[.val (.ref q0), .val (.ref b10), .val (.int (3 : Int32)), .val (.int (0 : Int32)), .unset] [] t
    refine XS.iloadN X10.here hx rfl (hb hby d_prog_32_method_4_code_9) rfl ?_
    show own_At p e below m T10 10 #[.val (.ref q0), .val (.ref b10), .val (.int (3 : Int32)), .val (.int (0 : Int32)), .unset] [(.int (0 : Int32))] t
    refine XS.iloadN X10.here hx rfl (hb hby d_prog_32_method_4_code_10) rfl ?_
    show own_At p e below m T10 11 #[.val (.ref q0), .val (.ref b10), .val (.int (3 : Int32)), .val (.int (0 : Int32)), .unset] [(.int (3 : Int32)), (.int (0 : Int32))] t
    refine XS.icmpNo X10.here hx rfl (hb hby d_prog_32_method_4_code_11) rfl (tlt (by decide : (0 : Int32) < (3 : Int32))).2.1 ?_
    show own_At p e below m T10 14 #[.val (.ref q0), .val (.ref b10), .val (.int (3 : Int32)), .val (.int (0 : Int32)), .unset] [] t
    refine XS.aloadN X10.here hx rfl (hb hby d_prog_32_method_4_code_14) rfl rfl ?_
    show own_At p e below m T10 15 #[.val (.ref q0), .val (.ref b10), .val (.int (3 : Int32)), .val (.int (0 : Int32)), .unset] [(.ref b10)] t
    refine XS.iloadN X10.here hx rfl (hb hby d_prog_32_method_4_code_15) rfl ?_
    show own_At p e below m T10 16 #[.val (.ref q0), .val (.ref b10), .val (.int (3 : Int32)), .val (.int (0 : Int32)), .unset] [(.int (0 : Int32)), (.ref b10)] t
    refine X10.aaload hx (j := (0 : Int32)) (v := (.ref a_DOMAIN)) (by exact Ar12.1) (State.isArrayOf_alike hZ.alike Ar12.2.1) rfl Ar12.2.2 hin13 hat14 (g := (mkF m 16 #[.val (.ref q0), .val (.ref b10), .val (.int (3 : Int32)), .val (.int (0 : Int32)), .unset] [(.int (0 : Int32)), (.ref b10)])) rfl rfl (hb hby d_prog_32_method_4_code_16) _ ?_
    show own_At p e below m T10 17 #[.val (.ref q0), .val (.ref b10), .val (.int (3 : Int32)), .val (.int (0 : Int32)), .unset] [(.ref a_DOMAIN)] t
    refine XS.astore X10.here hx rfl (hb hby d_prog_32_method_4_code_17) rfl rfl (l' := #[.val (.ref q0), .val (.ref b10), .val (.int (3 : Int32)), .val (.int (0 : Int32)), .val (.ref a_DOMAIN)]) rfl ?_
    show own_At p e below m T10 19 #[.val (.ref q0), .val (.ref b10), .val (.int (3 : Int32)), .val (.int (0 : Int32)), .val (.ref a_DOMAIN)] [] t
    refine XS.aload X10.here hx rfl (hb hby d_prog_32_method_4_code_19) rfl rfl ?_
    show own_At p e below m T10 21 #[.val (.ref q0), .val (.ref b10), .val (.int (3 : Int32)), .val (.int (0 : Int32)), .val (.ref a_DOMAIN)] [(.ref a_DOMAIN)] t
    refine st15 _ ?_
    show own_At p e below m T15 24 #[.val (.ref q0), .val (.ref b10), .val (.int (3 : Int32)), .val (.int (0 : Int32)), .val (.ref a_DOMAIN)] [(.ref a_DOMAIN_word)] t
    refine XS.aloadN X15.here hx rfl (hb hby d_prog_32_method_4_code_24) rfl rfl ?_
    show own_At p e below m T15 25 #[.val (.ref q0), .val (.ref b10), .val (.int (3 : Int32)), .val (.int (0 : Int32)), .val (.ref a_DOMAIN)] [(.ref q0), (.ref a_DOMAIN_word)] t
    refine st20.trans ?_
    show own_At p e below m T20 28 #[.val (.ref q0), .val (.ref b10), .val (.int (3 : Int32)), .val (.int (0 : Int32)), .val (.ref a_DOMAIN)] [(.int (1 : Int32))] t
    refine XS.ifNo X20.here hx rfl (hb hby d_prog_32_method_4_code_28) rfl ((if0 _ _).trans (feq (by decide : ¬ ((1 : Int32) = (0 : Int32)))).1) ?_
    show own_At p e below m T20 31 #[.val (.ref q0), .val (.ref b10), .val (.int (3 : Int32)), .val (.int (0 : Int32)), .val (.ref a_DOMAIN)] [] t
    refine XS.aload X20.here hx rfl (hb hby d_prog_32_method_4_code_31) rfl rfl ?_
    show own_At p e below m T20 33 #[.val (.ref q0), .val (.ref b10), .val (.int (3 : Int32)), .val (.int (0 : Int32)), .val (.ref a_DOMAIN)] [(.ref a_DOMAIN)] t
    exact k
  obtain ⟨fs, hr, hrun, hended, hW, hsame⟩ := X20.leave (v := some (.ref a_DOMAIN)) (fun h => by rw [Bd.returns] at h; cases h)
  refine hNG ⟨_, _, k21 _ ?_, hrun, hended, _, _, rfl, ?_, ⟨_, rfl⟩, hW, hsame.mono (by decide) (by decide)⟩
  · exact retOut X20 hx (t := (.object "com/example/scoped_authority/scopedauthority/Kind")) Bd.returns rfl (Or.inr (Or.inr (Or.inr (Or.inr ⟨rfl, rfl, rfl⟩)))) (hb hby d_prog_32_method_4_code_33) hr
  · show Q_fw_DOMAIN Z q0 t0 k0 a_DOMAIN a__VALUES a_PERSON a_OBJECT a_DOMAIN_word a_DOMAIN_word_value a_PERSON_word a_PERSON_word_value a_OBJECT_word a_OBJECT_word_value z_COMPACT_STRINGS r_SIOOBE_FORMATTER h0 n0 _ T20.heap _
    rw [hp20]
    exact ⟨rfl, N20, O10, K10⟩
theorem ef_fw_PERSON (m : MethodId) (x0 : Addr)  : entryFrame m #[(.ref x0)] 5 = mkF m 0 #[.val (.ref x0), .unset, .unset, .unset, .unset] [] := by first | (simp [entryFrame, mkF, argsToLocals, Value.category]; done) | rfl
theorem d_prog_32_method_4_code_34 : decode prog_32_method_4_code 34 = .ok (.iinc 3 1, 3) := by decide +kernel
theorem d_prog_32_method_4_code_37 : decode prog_32_method_4_code 37 = .ok (.goto (-28), 3) := by decide +kernel
def Q_fw_PERSON (Z : State) (q0 : Addr) (t0 : Addr) (k0 : ClassId) (a_DOMAIN : Addr) (a__VALUES : Addr) (a_PERSON : Addr) (a_OBJECT : Addr) (a_DOMAIN_word : Addr) (a_DOMAIN_word_value : Addr) (a_PERSON_word : Addr) (a_PERSON_word_value : Addr) (a_OBJECT_word : Addr) (a_OBJECT_word_value : Addr) (z_COMPACT_STRINGS : Int32) (r_SIOOBE_FORMATTER : Value) (h0 : Heap) (n0 : Nat) (v : Option Value) (h : Heap) (L : List Loc) : Prop := v = some (.ref a_PERSON) ∧ Fr n0 L ∧ Old Z n0 h ∧ Keep h0 h []
set_option maxRecDepth 65536 in
set_option maxHeartbeats 40000000 in
theorem rm_fw_PERSON (l : Launch) (Z : State) (a0 : Array Value) (hw : ∀ d ∈ tables_1, d.before a0 Z = true) (ws : List Jvm.Cond) (q0 : Addr) (t0 : Addr) (k0 : ClassId) (a_DOMAIN : Addr) (a__VALUES : Addr) (a_PERSON : Addr) (a_OBJECT : Addr) (a_DOMAIN_word : Addr) (a_DOMAIN_word_value : Addr) (a_PERSON_word : Addr) (a_PERSON_word_value : Addr) (a_OBJECT_word : Addr) (a_OBJECT_word_value : Addr) (z_COMPACT_STRINGS : Int32) (r_SIOOBE_FORMATTER : Value) (h0 : Heap) (n0 : Nat) (O0 : Old Z n0 h0) (hE : EV Z a_DOMAIN a__VALUES a_PERSON a_OBJECT a_DOMAIN_word a_DOMAIN_word_value a_PERSON_word a_PERSON_word_value a_OBJECT_word a_OBJECT_word_value z_COMPACT_STRINGS r_SIOOBE_FORMATTER) (P0 : Exa Z h0 q0 "java/lang/String") (P1 : Fld Z h0 q0 "java/lang/String" "coder" "B" (.int (0 : Int32))) (P2 : Fld Z h0 q0 "java/lang/String" "value" "[B" (.ref t0)) (P3 : Arv Z h0 t0 k0 .byte (6 : Int32) [(.int (112 : Int32)), (.int (101 : Int32)), (.int (114 : Int32)), (.int (115 : Int32)), (.int (111 : Int32)), (.int (110 : Int32))] (.int (0 : Int32))) :
    MetFree l own_m2 (head1 (Jvm.Cond.code own_m2 prog_32_method_4_code 5 (some (.object "com/example/scoped_authority/scopedauthority/Kind")) :: ws) ({ frames := 2, cells := 1, slots := 3, locals := 28 } : Room)) (fun a U => a = #[(.ref q0)] ∧ Z.Warmed39 U.vm ∧ U.heap = h0) (fun _ _ _ _ _ => True) (fun _ U o U' => ∃ v L, o = .returned v ∧ Q_fw_PERSON Z q0 t0 k0 a_DOMAIN a__VALUES a_PERSON a_OBJECT a_DOMAIN_word a_DOMAIN_word_value a_PERSON_word a_PERSON_word_value a_OBJECT_word a_OBJECT_word_value z_COMPACT_STRINGS r_SIOOBE_FORMATTER h0 n0 v U'.heap L ∧ FrameEnd U o U' L ({ frames := 2, cells := 1, slots := 3, locals := 28 } : Room).cells ({ frames := 2, cells := 1, slots := 3, locals := 28 } : Room).slots) := by
  refine MetFree.of_bodySF (plainFor_of_name pn_com_example_scoped_authority_scopedauthority_Kind) hisR ?_
  intro p e s m args below meth c s₁ Bd hml0 hP hK
  obtain ⟨rfl, hZ, hh⟩ := hP
  have hx := Bd.exec
  have hby := Bd.bytes
  have hml : c.maxLocals = 5 := hml0
  have hown : s.vm.findClass "com/example/scoped_authority/scopedauthority/Kind" = some m.cls := findClass_of_methodNamed Bd.named
  have hnm := (name_of_methodNamed Bd.named Bd.method).1
  have X00 : Stand p l e ({ frames := 2, cells := 1, slots := 3, locals := 28 } : Room) s m #[(.ref q0)] below meth c s₁ [] 0 0 := Stand.of_body Bd
  have e00 : s₁.heap = h0 := by rw [← hh, Bd.state]; rfl
  have N00 := Fr.nil n0
  refine Classical.byContradiction fun hNG => ?_
  have K00 := Keep.refl h0 []
  have k00 : ∀ t, own_At p e below m s₁ 0 #[.val (.ref q0), .unset, .unset, .unset, .unset] [] t → own_En p e below m s₁ #[(.ref q0)] 5 t := fun t k => castTop (ef_fw_PERSON m q0 ) k
  obtain ⟨S_DOMAIN, E_DOMAIN, S__VALUES, E__VALUES, S_PERSON, E_PERSON, S_OBJECT, E_OBJECT, F_DOMAIN_word, E_DOMAIN_word, F_DOMAIN_word_coder, F_DOMAIN_word_value, F_PERSON_word, E_PERSON_word, F_PERSON_word_coder, F_PERSON_word_value, F_OBJECT_word, E_OBJECT_word, F_OBJECT_word_coder, F_OBJECT_word_value, ne_DOMAIN_word_OBJECT_word, ne_OBJECT_word_PERSON_word, ne_DOMAIN_word_PERSON_word, S_COMPACT_STRINGS, nz_COMPACT_STRINGS, S_SIOOBE_FORMATTER, iS_SIOOBE_FORMATTER, C__VALUES, C_DOMAIN_word_value, C_PERSON_word_value, C_OBJECT_word_value⟩ := (id hE : EV Z a_DOMAIN a__VALUES a_PERSON a_OBJECT a_DOMAIN_word a_DOMAIN_word_value a_PERSON_word a_PERSON_word_value a_OBJECT_word a_OBJECT_word_value z_COMPACT_STRINGS r_SIOOBE_FORMATTER)
  obtain ⟨kw_DOMAIN, Aw_DOMAIN⟩ := C_DOMAIN_word_value.arv
  obtain ⟨kw_PERSON, Aw_PERSON⟩ := C_PERSON_word_value.arv
  obtain ⟨kw_OBJECT, Aw_OBJECT⟩ := C_OBJECT_word_value.arv
  obtain ⟨_, _, ⟨T10, L10, k10, n10⟩, -, X10, ⟨Lc10, hQ10, l10, y10, z10⟩, st10⟩ := Jvm.LawKit.callS X00 hx (y := own_m0) hown (mvT hZ (own_w hw 37 rfl)) (mvT hZ (own_w hw 38 rfl)) (mvT hZ (own_w hw 3 rfl)) (mvT hZ (own_w hw 39 rfl)) (by decide) (backOf (W := 0) (rm_vals l Z a0 hw []  _ _ _ _ _ _ _ _ _ _ _ _ h0 n0 O0 hE  ) hZ (own_w hw 39 rfl) (own_w hw 3 rfl) (by decide) (by decide)) (g := (mkF m 0 #[.val (.ref q0), .unset, .unset, .unset, .unset] [])) rfl (by rw [hml]; rfl) (argsL := []) (rest := []) (lenOf pd____Lcom_example_scoped_authority_scopedauthority_Kind_ rfl) rfl (by show 2 * 0 + _ ≤ _; exact Nat.le_of_eq rfl) (hb hby d_prog_32_method_4_code_0) (fun _ _ => ⟨rfl, e00, (by decide : 0 + 1 ≤ _), (by decide : 0 + 3 ≤ _)⟩)
  dsimp only [Pt.U, Pt.locs, Pt.cells, Pt.slots] at X10 l10 y10 z10 st10 hQ10
  subst l10 y10 z10
  obtain ⟨b10, k10, rfl, N10q, O10, Kc10, g_b10, gs_b10, F10_0⟩ := hQ10
  have N10 := Fr.app N00 N10q
  have K10 := K00.trans Kc10 (fun x hx => nomatch hx)
  have s_b10 := Nat.le_trans K00.1 gs_b10
  have lt_b10 := F10_0.lt
  obtain ⟨cl11, Ar11, q11, Sz11, Nn11, Hs11, Gf11⟩ := id F10_0
  obtain ⟨cl12, Ar12, q12, Sz12, Nn12, Hs12, Gf12⟩ := id F10_0
  have hin13 : ¬ ((0 : Int32) < 0 ∨ cl12.slots.size ≤ ((0 : Int32)).toNatClampNeg) := inb_of Sz12 ⟨by decide, by decide⟩
  have hat14 : cl12.slots[((0 : Int32)).toNatClampNeg]? = some (.ref a_DOMAIN) := Hs12.at hin13 rfl
  obtain ⟨T15, X15, e15, st15⟩ := getF X10 hx hZ hown (host := "") (Or.inl (own_w hw 54 rfl)) Via.refl rfl (F_DOMAIN_word.ext O10.2) (g := (mkF m 21 #[.val (.ref q0), .val (.ref b10), .val (.int (3 : Int32)), .val (.int (0 : Int32)), .val (.ref a_DOMAIN)] [(.ref a_DOMAIN)])) rfl rfl (hb hby d_prog_32_method_4_code_21)
  have f16 := (P0.keep Kc10)
  have f17 := (P2.keep Kc10 List.not_mem_nil)
  have f18 := (P1.keep Kc10 List.not_mem_nil)
  have f19 := (P3.keep Kc10 List.not_mem_nil)
  obtain ⟨cq20, kq20, q20a, q20b, q20c⟩ := isOf hZ e15 (E_DOMAIN_word.ext O10.2)
  obtain ⟨_, _, ⟨T20, L20, k20, n20⟩, -, X20, ⟨Lc20, hQ20, l20, y20, z20⟩, st20⟩ := X15.virtualBack hx (y := own_m1) (z := own_m1) hown (mvT hZ (own_w hw 56 rfl)) (mvT hZ (own_w hw 57 rfl)) (notFace_of_selects (args := #[]) (mvT hZ (own_w hw 59 rfl))) (mvT hZ (own_w hw 59 rfl)) (mvT hZ (own_w hw 58 rfl)) (by decide) (StrChars.Road.eqW (W := 0) hZ (own_heq hw) (kI := 4) (own_w hw 6 rfl) (E_DOMAIN_word.ext O10.2) (F_DOMAIN_word_value.ext O10.2) (F_DOMAIN_word_coder.ext O10.2) (Aw_DOMAIN.ext O10.2) own_cd_DOMAIN (own_up _ own_bd_DOMAIN) (Nat.le_of_ble_eq_true rfl) f16 f17 f18 f19 own_cd_PERSON (own_up _ own_bd_PERSON) (Nat.le_of_ble_eq_true rfl) (S_COMPACT_STRINGS.ext O10.2) nz_COMPACT_STRINGS (by decide) (by decide)) q20a q20c (g := (mkF m 25 #[.val (.ref q0), .val (.ref b10), .val (.int (3 : Int32)), .val (.int (0 : Int32)), .val (.ref a_DOMAIN)] [(.ref q0), (.ref a_DOMAIN_word)])) rfl (by rw [hml]; rfl) (Steps.refl _) (argsL := [(.ref q0)]) (rest := []) (lenOf pd__Ljava_lang_Object__Z rfl) rfl (by show 2 * 0 + _ ≤ _; exact Nat.le_of_eq rfl) (hb hby d_prog_32_method_4_code_25) (fun _ _ => ⟨rfl, e15, (by decide : 1 + 0 ≤ _), (by decide : 3 + 0 ≤ _)⟩)
  dsimp only [Pt.U, Pt.locs, Pt.cells, Pt.slots] at X20 l20 y20 z20 st20 hQ20
  subst l20 y20 z20
  obtain ⟨hcase20, rfl, hp20⟩ := hQ20
  have N20q : Fr n0 ([] : List Loc) := Fr.nil n0
  have hv20 : _ = some (Value.int 0) := hcase20.elim (fun q => absurd q.2 (by decide)) (fun q => q.1)
  subst hv20
  have N20 := Fr.app N10 N20q
  obtain ⟨cl21, Ar21, q21, Sz21, Nn21, Hs21, Gf21⟩ := id F10_0
  have hin22 : ¬ ((1 : Int32) < 0 ∨ cl21.slots.size ≤ ((1 : Int32)).toNatClampNeg) := inb_of Sz21 ⟨by decide, by decide⟩
  have hat23 : cl21.slots[((1 : Int32)).toNatClampNeg]? = some (.ref a_PERSON) := Hs21.at hin22 rfl
  obtain ⟨T24, X24, e24, st24⟩ := getF X20 hx hZ hown (host := "") (Or.inl (own_w hw 54 rfl)) Via.refl hp20 (F_PERSON_word.ext O10.2) (g := (mkF m 21 #[.val (.ref q0), .val (.ref b10), .val (.int (3 : Int32)), .val (.int (1 : Int32)), .val (.ref a_PERSON)] [(.ref a_PERSON)])) rfl rfl (hb hby d_prog_32_method_4_code_21)
  obtain ⟨cq25, kq25, q25a, q25b, q25c⟩ := isOf hZ e24 (E_PERSON_word.ext O10.2)
  obtain ⟨_, _, ⟨T25, L25, k25, n25⟩, -, X25, ⟨Lc25, hQ25, l25, y25, z25⟩, st25⟩ := X24.virtualBack hx (y := own_m1) (z := own_m1) hown (mvT hZ (own_w hw 56 rfl)) (mvT hZ (own_w hw 57 rfl)) (notFace_of_selects (args := #[]) (mvT hZ (own_w hw 59 rfl))) (mvT hZ (own_w hw 59 rfl)) (mvT hZ (own_w hw 58 rfl)) (by decide) (StrChars.Road.eqW (W := 0) hZ (own_heq hw) (kI := 4) (own_w hw 6 rfl) (E_PERSON_word.ext O10.2) (F_PERSON_word_value.ext O10.2) (F_PERSON_word_coder.ext O10.2) (Aw_PERSON.ext O10.2) own_cd_PERSON (own_up _ own_bd_PERSON) (Nat.le_of_ble_eq_true rfl) f16 f17 f18 f19 own_cd_PERSON (own_up _ own_bd_PERSON) (Nat.le_of_ble_eq_true rfl) (S_COMPACT_STRINGS.ext O10.2) nz_COMPACT_STRINGS (by decide) (by decide)) q25a q25c (g := (mkF m 25 #[.val (.ref q0), .val (.ref b10), .val (.int (3 : Int32)), .val (.int (1 : Int32)), .val (.ref a_PERSON)] [(.ref q0), (.ref a_PERSON_word)])) rfl (by rw [hml]; rfl) (Steps.refl _) (argsL := [(.ref q0)]) (rest := []) (lenOf pd__Ljava_lang_Object__Z rfl) rfl (by show 2 * 0 + _ ≤ _; exact Nat.le_of_eq rfl) (hb hby d_prog_32_method_4_code_25) (fun _ _ => ⟨rfl, e24, (by decide : 1 + 0 ≤ _), (by decide : 3 + 0 ≤ _)⟩)
  dsimp only [Pt.U, Pt.locs, Pt.cells, Pt.slots] at X25 l25 y25 z25 st25 hQ25
  subst l25 y25 z25
  obtain ⟨hcase25, rfl, hp25⟩ := hQ25
  have N25q : Fr n0 ([] : List Loc) := Fr.nil n0
  have hv25 : _ = some (Value.int 1) := hcase25.elim (fun q => q.1) (fun q => absurd rfl q.2)
  subst hv25
  have N25 := Fr.app N20 N25q
  have k26 : ∀ t, own_At p e below m T25 33 #[.val (.ref q0), .val (.ref b10), .val (.int (3 : Int32)), .val (.int (1 : Int32)), .val (.ref a_PERSON)] [(.ref a_PERSON)] t → own_En p e below m s₁ #[(.ref q0)] 5 t := by
    intro t k
    refine k00 t ?_
    refine st10 _ ?_
    show own_At p e below m T10 3 #[.val (.ref q0), .unset, .unset, .unset, .unset] [(.ref b10)] t
    refine XS.astoreN X10.here hx rfl (hb hby d_prog_32_method_4_code_3) rfl rfl (l' := #[.val (.ref q0), .val (.ref b10), .unset, .unset, .unset]) rfl ?_
    show own_At p e below m T10 4 #[.val (.ref q0), .val (.ref b10), .unset, .unset, .unset] [] t
    refine XS.aloadN X10.here hx rfl (hb hby d_prog_32_method_4_code_4) rfl rfl ?_
    show own_At p e below m T10 5 #[.val (.ref q0), .val (.ref b10), .unset, .unset, .unset] [(.ref b10)] t
    refine X10.arraylength hx (by exact Ar11.1) (State.isArrayOf_alike hZ.alike Ar11.2.1) (g := (mkF m 5 #[.val (.ref q0), .val (.ref b10), .unset, .unset, .unset] [(.ref b10)])) rfl rfl (hb hby d_prog_32_method_4_code_5) _ ?_
    rw [len_of Sz11 Nn11]
    show own_At p e below m T10 6 #[.val (.ref q0), .val (.ref b10), .unset, .unset, .unset] [(.int (3 : Int32))] t
    refine XS.istoreN X10.here hx rfl (hb hby d_prog_32_method_4_code_6) rfl (l' := #[.val (.ref q0), .val (.ref b10), .val (.int (3 : Int32)), .unset, .unset]) rfl ?_
    show own_At p e below m T10 7 #[.val (.ref q0), .val (.ref b10), .val (.int (3 : Int32)), .unset, .unset] [] t
    refine XS.iconst X10.here hx rfl (hb hby d_prog_32_method_4_code_7) ?_
    show own_At p e below m T10 8 #[.val (.ref q0), .val (.ref b10), .val (.int (3 : Int32)), .unset, .unset] [(.int (0 : Int32))] t
    refine XS.istoreN X10.here hx rfl (hb hby d_prog_32_method_4_code_8) rfl (l' := #[.val (.ref q0), .val (.ref b10), .val (.int (3 : Int32)), .val (.int (0 : Int32)), .unset]) rfl ?_
    show own_At p e below m T10 9 #[.val (.ref q0), .val (.ref b10), .val (.int (3 : Int32)), .val (.int (0 : Int32)), .unset] [] t
    refine XS.iloadN X10.here hx rfl (hb hby d_prog_32_method_4_code_9) rfl ?_
    show own_At p e below m T10 10 #[.val (.ref q0), .val (.ref b10), .val (.int (3 : Int32)), .val (.int (0 : Int32)), .unset] [(.int (0 : Int32))] t
    refine XS.iloadN X10.here hx rfl (hb hby d_prog_32_method_4_code_10) rfl ?_
    show own_At p e below m T10 11 #[.val (.ref q0), .val (.ref b10), .val (.int (3 : Int32)), .val (.int (0 : Int32)), .unset] [(.int (3 : Int32)), (.int (0 : Int32))] t
    refine XS.icmpNo X10.here hx rfl (hb hby d_prog_32_method_4_code_11) rfl (tlt (by decide : (0 : Int32) < (3 : Int32))).2.1 ?_
    show own_At p e below m T10 14 #[.val (.ref q0), .val (.ref b10), .val (.int (3 : Int32)), .val (.int (0 : Int32)), .unset] [] t
    refine XS.aloadN X10.here hx rfl (hb hby d_prog_32_method_4_code_14) rfl rfl ?_
    show own_At p e below m T10 15 #[.val (.ref q0), .val (.ref b10), .val (.int (3 : Int32)), .val (.int (0 : Int32)), .unset] [(.ref b10)] t
    refine XS.iloadN X10.here hx rfl (hb hby d_prog_32_method_4_code_15) rfl ?_
    show own_At p e below m T10 16 #[.val (.ref q0), .val (.ref b10), .val (.int (3 : Int32)), .val (.int (0 : Int32)), .unset] [(.int (0 : Int32)), (.ref b10)] t
    refine X10.aaload hx (j := (0 : Int32)) (v := (.ref a_DOMAIN)) (by exact Ar12.1) (State.isArrayOf_alike hZ.alike Ar12.2.1) rfl Ar12.2.2 hin13 hat14 (g := (mkF m 16 #[.val (.ref q0), .val (.ref b10), .val (.int (3 : Int32)), .val (.int (0 : Int32)), .unset] [(.int (0 : Int32)), (.ref b10)])) rfl rfl (hb hby d_prog_32_method_4_code_16) _ ?_
    show own_At p e below m T10 17 #[.val (.ref q0), .val (.ref b10), .val (.int (3 : Int32)), .val (.int (0 : Int32)), .unset] [(.ref a_DOMAIN)] t
    refine XS.astore X10.here hx rfl (hb hby d_prog_32_method_4_code_17) rfl rfl (l' := #[.val (.ref q0), .val (.ref b10), .val (.int (3 : Int32)), .val (.int (0 : Int32)), .val (.ref a_DOMAIN)]) rfl ?_
    show own_At p e below m T10 19 #[.val (.ref q0), .val (.ref b10), .val (.int (3 : Int32)), .val (.int (0 : Int32)), .val (.ref a_DOMAIN)] [] t
    refine XS.aload X10.here hx rfl (hb hby d_prog_32_method_4_code_19) rfl rfl ?_
    show own_At p e below m T10 21 #[.val (.ref q0), .val (.ref b10), .val (.int (3 : Int32)), .val (.int (0 : Int32)), .val (.ref a_DOMAIN)] [(.ref a_DOMAIN)] t
    refine st15 _ ?_
    show own_At p e below m T15 24 #[.val (.ref q0), .val (.ref b10), .val (.int (3 : Int32)), .val (.int (0 : Int32)), .val (.ref a_DOMAIN)] [(.ref a_DOMAIN_word)] t
    refine XS.aloadN X15.here hx rfl (hb hby d_prog_32_method_4_code_24) rfl rfl ?_
    show own_At p e below m T15 25 #[.val (.ref q0), .val (.ref b10), .val (.int (3 : Int32)), .val (.int (0 : Int32)), .val (.ref a_DOMAIN)] [(.ref q0), (.ref a_DOMAIN_word)] t
    refine st20.trans ?_
    show own_At p e below m T20 28 #[.val (.ref q0), .val (.ref b10), .val (.int (3 : Int32)), .val (.int (0 : Int32)), .val (.ref a_DOMAIN)] [(.int (0 : Int32))] t
    refine XS.ifYes X20.here hx rfl (pc0 := 28) (pc' := 34) rfl (hb hby d_prog_32_method_4_code_28) rfl ((if0 _ _).trans (teq (by decide : (0 : Int32) = (0 : Int32))).1) (by decide) (by decide) ?_
    show own_At p e below m T20 34 #[.val (.ref q0), .val (.ref b10), .val (.int (3 : Int32)), .val (.int (0 : Int32)), .val (.ref a_DOMAIN)] [] t
    refine XS.iinc X20.here hx rfl (hb hby d_prog_32_method_4_code_34) rfl (l' := #[.val (.ref q0), .val (.ref b10), .val (.int (3 : Int32)), .val (.int ((0 : Int32) + (1 : Int32))), .val (.ref a_DOMAIN)]) rfl ?_
    show own_At p e below m T20 37 #[.val (.ref q0), .val (.ref b10), .val (.int (3 : Int32)), .val (.int ((0 : Int32) + (1 : Int32))), .val (.ref a_DOMAIN)] [] t
    rw [show ((0 : Int32) + (1 : Int32)) = (1 : Int32) from by decide]
    show own_At p e below m T20 37 #[.val (.ref q0), .val (.ref b10), .val (.int (3 : Int32)), .val (.int (1 : Int32)), .val (.ref a_DOMAIN)] [] t
    refine XS.goto X20.here hx rfl (pc0 := 37) (pc' := 9) rfl (hb hby d_prog_32_method_4_code_37) (by decide) (by decide) ?_
    show own_At p e below m T20 9 #[.val (.ref q0), .val (.ref b10), .val (.int (3 : Int32)), .val (.int (1 : Int32)), .val (.ref a_DOMAIN)] [] t
    refine XS.iloadN X20.here hx rfl (hb hby d_prog_32_method_4_code_9) rfl ?_
    show own_At p e below m T20 10 #[.val (.ref q0), .val (.ref b10), .val (.int (3 : Int32)), .val (.int (1 : Int32)), .val (.ref a_DOMAIN)] [(.int (1 : Int32))] t
    refine XS.iloadN X20.here hx rfl (hb hby d_prog_32_method_4_code_10) rfl ?_
    show own_At p e below m T20 11 #[.val (.ref q0), .val (.ref b10), .val (.int (3 : Int32)), .val (.int (1 : Int32)), .val (.ref a_DOMAIN)] [(.int (3 : Int32)), (.int (1 : Int32))] t
    refine XS.icmpNo X20.here hx rfl (hb hby d_prog_32_method_4_code_11) rfl (tlt (by decide : (1 : Int32) < (3 : Int32))).2.1 ?_
    show own_At p e below m T20 14 #[.val (.ref q0), .val (.ref b10), .val (.int (3 : Int32)), .val (.int (1 : Int32)), .val (.ref a_DOMAIN)] [] t
    refine XS.aloadN X20.here hx rfl (hb hby d_prog_32_method_4_code_14) rfl rfl ?_
    show own_At p e below m T20 15 #[.val (.ref q0), .val (.ref b10), .val (.int (3 : Int32)), .val (.int (1 : Int32)), .val (.ref a_DOMAIN)] [(.ref b10)] t
    refine XS.iloadN X20.here hx rfl (hb hby d_prog_32_method_4_code_15) rfl ?_
    show own_At p e below m T20 16 #[.val (.ref q0), .val (.ref b10), .val (.int (3 : Int32)), .val (.int (1 : Int32)), .val (.ref a_DOMAIN)] [(.int (1 : Int32)), (.ref b10)] t
    refine X20.aaload hx (j := (1 : Int32)) (v := (.ref a_PERSON)) (by rw [hp20]; exact Ar21.1) (State.isArrayOf_alike hZ.alike Ar21.2.1) rfl Ar21.2.2 hin22 hat23 (g := (mkF m 16 #[.val (.ref q0), .val (.ref b10), .val (.int (3 : Int32)), .val (.int (1 : Int32)), .val (.ref a_DOMAIN)] [(.int (1 : Int32)), (.ref b10)])) rfl rfl (hb hby d_prog_32_method_4_code_16) _ ?_
    show own_At p e below m T20 17 #[.val (.ref q0), .val (.ref b10), .val (.int (3 : Int32)), .val (.int (1 : Int32)), .val (.ref a_DOMAIN)] [(.ref a_PERSON)] t
    refine XS.astore X20.here hx rfl (hb hby d_prog_32_method_4_code_17) rfl rfl (l' := #[.val (.ref q0), .val (.ref b10), .val (.int (3 : Int32)), .val (.int (1 : Int32)), .val (.ref a_PERSON)]) rfl ?_
    show own_At p e below m T20 19 #[.val (.ref q0), .val (.ref b10), .val (.int (3 : Int32)), .val (.int (1 : Int32)), .val (.ref a_PERSON)] [] t
    refine XS.aload X20.here hx rfl (hb hby d_prog_32_method_4_code_19) rfl rfl ?_
    show own_At p e below m T20 21 #[.val (.ref q0), .val (.ref b10), .val (.int (3 : Int32)), .val (.int (1 : Int32)), .val (.ref a_PERSON)] [(.ref a_PERSON)] t
    refine st24 _ ?_
    show own_At p e below m T24 24 #[.val (.ref q0), .val (.ref b10), .val (.int (3 : Int32)), .val (.int (1 : Int32)), .val (.ref a_PERSON)] [(.ref a_PERSON_word)] t
    refine XS.aloadN X24.here hx rfl (hb hby d_prog_32_method_4_code_24) rfl rfl ?_
    show own_At p e below m T24 25 #[.val (.ref q0), .val (.ref b10), .val (.int (3 : Int32)), .val (.int (1 : Int32)), .val (.ref a_PERSON)] [(.ref q0), (.ref a_PERSON_word)] t
    refine st25.trans ?_
    show own_At p e below m T25 28 #[.val (.ref q0), .val (.ref b10), .val (.int (3 : Int32)), .val (.int (1 : Int32)), .val (.ref a_PERSON)] [(.int (1 : Int32))] t
    refine XS.ifNo X25.here hx rfl (hb hby d_prog_32_method_4_code_28) rfl ((if0 _ _).trans (feq (by decide : ¬ ((1 : Int32) = (0 : Int32)))).1) ?_
    show own_At p e below m T25 31 #[.val (.ref q0), .val (.ref b10), .val (.int (3 : Int32)), .val (.int (1 : Int32)), .val (.ref a_PERSON)] [] t
    refine XS.aload X25.here hx rfl (hb hby d_prog_32_method_4_code_31) rfl rfl ?_
    show own_At p e below m T25 33 #[.val (.ref q0), .val (.ref b10), .val (.int (3 : Int32)), .val (.int (1 : Int32)), .val (.ref a_PERSON)] [(.ref a_PERSON)] t
    exact k
  obtain ⟨fs, hr, hrun, hended, hW, hsame⟩ := X25.leave (v := some (.ref a_PERSON)) (fun h => by rw [Bd.returns] at h; cases h)
  refine hNG ⟨_, _, k26 _ ?_, hrun, hended, _, _, rfl, ?_, ⟨_, rfl⟩, hW, hsame.mono (by decide) (by decide)⟩
  · exact retOut X25 hx (t := (.object "com/example/scoped_authority/scopedauthority/Kind")) Bd.returns rfl (Or.inr (Or.inr (Or.inr (Or.inr ⟨rfl, rfl, rfl⟩)))) (hb hby d_prog_32_method_4_code_33) hr
  · show Q_fw_PERSON Z q0 t0 k0 a_DOMAIN a__VALUES a_PERSON a_OBJECT a_DOMAIN_word a_DOMAIN_word_value a_PERSON_word a_PERSON_word_value a_OBJECT_word a_OBJECT_word_value z_COMPACT_STRINGS r_SIOOBE_FORMATTER h0 n0 _ T25.heap _
    rw [hp25]
    exact ⟨rfl, N25, O10, K10⟩
theorem ef_fw_OBJECT (m : MethodId) (x0 : Addr)  : entryFrame m #[(.ref x0)] 5 = mkF m 0 #[.val (.ref x0), .unset, .unset, .unset, .unset] [] := by first | (simp [entryFrame, mkF, argsToLocals, Value.category]; done) | rfl
def Q_fw_OBJECT (Z : State) (q0 : Addr) (t0 : Addr) (k0 : ClassId) (a_DOMAIN : Addr) (a__VALUES : Addr) (a_PERSON : Addr) (a_OBJECT : Addr) (a_DOMAIN_word : Addr) (a_DOMAIN_word_value : Addr) (a_PERSON_word : Addr) (a_PERSON_word_value : Addr) (a_OBJECT_word : Addr) (a_OBJECT_word_value : Addr) (z_COMPACT_STRINGS : Int32) (r_SIOOBE_FORMATTER : Value) (h0 : Heap) (n0 : Nat) (v : Option Value) (h : Heap) (L : List Loc) : Prop := v = some (.ref a_OBJECT) ∧ Fr n0 L ∧ Old Z n0 h ∧ Keep h0 h []
set_option maxRecDepth 65536 in
set_option maxHeartbeats 40000000 in
theorem rm_fw_OBJECT (l : Launch) (Z : State) (a0 : Array Value) (hw : ∀ d ∈ tables_1, d.before a0 Z = true) (ws : List Jvm.Cond) (q0 : Addr) (t0 : Addr) (k0 : ClassId) (a_DOMAIN : Addr) (a__VALUES : Addr) (a_PERSON : Addr) (a_OBJECT : Addr) (a_DOMAIN_word : Addr) (a_DOMAIN_word_value : Addr) (a_PERSON_word : Addr) (a_PERSON_word_value : Addr) (a_OBJECT_word : Addr) (a_OBJECT_word_value : Addr) (z_COMPACT_STRINGS : Int32) (r_SIOOBE_FORMATTER : Value) (h0 : Heap) (n0 : Nat) (O0 : Old Z n0 h0) (hE : EV Z a_DOMAIN a__VALUES a_PERSON a_OBJECT a_DOMAIN_word a_DOMAIN_word_value a_PERSON_word a_PERSON_word_value a_OBJECT_word a_OBJECT_word_value z_COMPACT_STRINGS r_SIOOBE_FORMATTER) (P0 : Exa Z h0 q0 "java/lang/String") (P1 : Fld Z h0 q0 "java/lang/String" "coder" "B" (.int (0 : Int32))) (P2 : Fld Z h0 q0 "java/lang/String" "value" "[B" (.ref t0)) (P3 : Arv Z h0 t0 k0 .byte (6 : Int32) [(.int (111 : Int32)), (.int (98 : Int32)), (.int (106 : Int32)), (.int (101 : Int32)), (.int (99 : Int32)), (.int (116 : Int32))] (.int (0 : Int32))) :
    MetFree l own_m2 (head1 (Jvm.Cond.code own_m2 prog_32_method_4_code 5 (some (.object "com/example/scoped_authority/scopedauthority/Kind")) :: ws) ({ frames := 2, cells := 1, slots := 3, locals := 28 } : Room)) (fun a U => a = #[(.ref q0)] ∧ Z.Warmed39 U.vm ∧ U.heap = h0) (fun _ _ _ _ _ => True) (fun _ U o U' => ∃ v L, o = .returned v ∧ Q_fw_OBJECT Z q0 t0 k0 a_DOMAIN a__VALUES a_PERSON a_OBJECT a_DOMAIN_word a_DOMAIN_word_value a_PERSON_word a_PERSON_word_value a_OBJECT_word a_OBJECT_word_value z_COMPACT_STRINGS r_SIOOBE_FORMATTER h0 n0 v U'.heap L ∧ FrameEnd U o U' L ({ frames := 2, cells := 1, slots := 3, locals := 28 } : Room).cells ({ frames := 2, cells := 1, slots := 3, locals := 28 } : Room).slots) := by
  refine MetFree.of_bodySF (plainFor_of_name pn_com_example_scoped_authority_scopedauthority_Kind) hisR ?_
  intro p e s m args below meth c s₁ Bd hml0 hP hK
  obtain ⟨rfl, hZ, hh⟩ := hP
  have hx := Bd.exec
  have hby := Bd.bytes
  have hml : c.maxLocals = 5 := hml0
  have hown : s.vm.findClass "com/example/scoped_authority/scopedauthority/Kind" = some m.cls := findClass_of_methodNamed Bd.named
  have hnm := (name_of_methodNamed Bd.named Bd.method).1
  have X00 : Stand p l e ({ frames := 2, cells := 1, slots := 3, locals := 28 } : Room) s m #[(.ref q0)] below meth c s₁ [] 0 0 := Stand.of_body Bd
  have e00 : s₁.heap = h0 := by rw [← hh, Bd.state]; rfl
  have N00 := Fr.nil n0
  refine Classical.byContradiction fun hNG => ?_
  have K00 := Keep.refl h0 []
  have k00 : ∀ t, own_At p e below m s₁ 0 #[.val (.ref q0), .unset, .unset, .unset, .unset] [] t → own_En p e below m s₁ #[(.ref q0)] 5 t := fun t k => castTop (ef_fw_OBJECT m q0 ) k
  obtain ⟨S_DOMAIN, E_DOMAIN, S__VALUES, E__VALUES, S_PERSON, E_PERSON, S_OBJECT, E_OBJECT, F_DOMAIN_word, E_DOMAIN_word, F_DOMAIN_word_coder, F_DOMAIN_word_value, F_PERSON_word, E_PERSON_word, F_PERSON_word_coder, F_PERSON_word_value, F_OBJECT_word, E_OBJECT_word, F_OBJECT_word_coder, F_OBJECT_word_value, ne_DOMAIN_word_OBJECT_word, ne_OBJECT_word_PERSON_word, ne_DOMAIN_word_PERSON_word, S_COMPACT_STRINGS, nz_COMPACT_STRINGS, S_SIOOBE_FORMATTER, iS_SIOOBE_FORMATTER, C__VALUES, C_DOMAIN_word_value, C_PERSON_word_value, C_OBJECT_word_value⟩ := (id hE : EV Z a_DOMAIN a__VALUES a_PERSON a_OBJECT a_DOMAIN_word a_DOMAIN_word_value a_PERSON_word a_PERSON_word_value a_OBJECT_word a_OBJECT_word_value z_COMPACT_STRINGS r_SIOOBE_FORMATTER)
  obtain ⟨kw_DOMAIN, Aw_DOMAIN⟩ := C_DOMAIN_word_value.arv
  obtain ⟨kw_PERSON, Aw_PERSON⟩ := C_PERSON_word_value.arv
  obtain ⟨kw_OBJECT, Aw_OBJECT⟩ := C_OBJECT_word_value.arv
  obtain ⟨_, _, ⟨T10, L10, k10, n10⟩, -, X10, ⟨Lc10, hQ10, l10, y10, z10⟩, st10⟩ := Jvm.LawKit.callS X00 hx (y := own_m0) hown (mvT hZ (own_w hw 37 rfl)) (mvT hZ (own_w hw 38 rfl)) (mvT hZ (own_w hw 3 rfl)) (mvT hZ (own_w hw 39 rfl)) (by decide) (backOf (W := 0) (rm_vals l Z a0 hw []  _ _ _ _ _ _ _ _ _ _ _ _ h0 n0 O0 hE  ) hZ (own_w hw 39 rfl) (own_w hw 3 rfl) (by decide) (by decide)) (g := (mkF m 0 #[.val (.ref q0), .unset, .unset, .unset, .unset] [])) rfl (by rw [hml]; rfl) (argsL := []) (rest := []) (lenOf pd____Lcom_example_scoped_authority_scopedauthority_Kind_ rfl) rfl (by show 2 * 0 + _ ≤ _; exact Nat.le_of_eq rfl) (hb hby d_prog_32_method_4_code_0) (fun _ _ => ⟨rfl, e00, (by decide : 0 + 1 ≤ _), (by decide : 0 + 3 ≤ _)⟩)
  dsimp only [Pt.U, Pt.locs, Pt.cells, Pt.slots] at X10 l10 y10 z10 st10 hQ10
  subst l10 y10 z10
  obtain ⟨b10, k10, rfl, N10q, O10, Kc10, g_b10, gs_b10, F10_0⟩ := hQ10
  have N10 := Fr.app N00 N10q
  have K10 := K00.trans Kc10 (fun x hx => nomatch hx)
  have s_b10 := Nat.le_trans K00.1 gs_b10
  have lt_b10 := F10_0.lt
  obtain ⟨cl11, Ar11, q11, Sz11, Nn11, Hs11, Gf11⟩ := id F10_0
  obtain ⟨cl12, Ar12, q12, Sz12, Nn12, Hs12, Gf12⟩ := id F10_0
  have hin13 : ¬ ((0 : Int32) < 0 ∨ cl12.slots.size ≤ ((0 : Int32)).toNatClampNeg) := inb_of Sz12 ⟨by decide, by decide⟩
  have hat14 : cl12.slots[((0 : Int32)).toNatClampNeg]? = some (.ref a_DOMAIN) := Hs12.at hin13 rfl
  obtain ⟨T15, X15, e15, st15⟩ := getF X10 hx hZ hown (host := "") (Or.inl (own_w hw 54 rfl)) Via.refl rfl (F_DOMAIN_word.ext O10.2) (g := (mkF m 21 #[.val (.ref q0), .val (.ref b10), .val (.int (3 : Int32)), .val (.int (0 : Int32)), .val (.ref a_DOMAIN)] [(.ref a_DOMAIN)])) rfl rfl (hb hby d_prog_32_method_4_code_21)
  have f16 := (P0.keep Kc10)
  have f17 := (P2.keep Kc10 List.not_mem_nil)
  have f18 := (P1.keep Kc10 List.not_mem_nil)
  have f19 := (P3.keep Kc10 List.not_mem_nil)
  obtain ⟨cq20, kq20, q20a, q20b, q20c⟩ := isOf hZ e15 (E_DOMAIN_word.ext O10.2)
  obtain ⟨_, _, ⟨T20, L20, k20, n20⟩, -, X20, ⟨Lc20, hQ20, l20, y20, z20⟩, st20⟩ := X15.virtualBack hx (y := own_m1) (z := own_m1) hown (mvT hZ (own_w hw 56 rfl)) (mvT hZ (own_w hw 57 rfl)) (notFace_of_selects (args := #[]) (mvT hZ (own_w hw 59 rfl))) (mvT hZ (own_w hw 59 rfl)) (mvT hZ (own_w hw 58 rfl)) (by decide) (StrChars.Road.eqW (W := 0) hZ (own_heq hw) (kI := 4) (own_w hw 6 rfl) (E_DOMAIN_word.ext O10.2) (F_DOMAIN_word_value.ext O10.2) (F_DOMAIN_word_coder.ext O10.2) (Aw_DOMAIN.ext O10.2) own_cd_DOMAIN (own_up _ own_bd_DOMAIN) (Nat.le_of_ble_eq_true rfl) f16 f17 f18 f19 own_cd_OBJECT (own_up _ own_bd_OBJECT) (Nat.le_of_ble_eq_true rfl) (S_COMPACT_STRINGS.ext O10.2) nz_COMPACT_STRINGS (by decide) (by decide)) q20a q20c (g := (mkF m 25 #[.val (.ref q0), .val (.ref b10), .val (.int (3 : Int32)), .val (.int (0 : Int32)), .val (.ref a_DOMAIN)] [(.ref q0), (.ref a_DOMAIN_word)])) rfl (by rw [hml]; rfl) (Steps.refl _) (argsL := [(.ref q0)]) (rest := []) (lenOf pd__Ljava_lang_Object__Z rfl) rfl (by show 2 * 0 + _ ≤ _; exact Nat.le_of_eq rfl) (hb hby d_prog_32_method_4_code_25) (fun _ _ => ⟨rfl, e15, (by decide : 1 + 0 ≤ _), (by decide : 3 + 0 ≤ _)⟩)
  dsimp only [Pt.U, Pt.locs, Pt.cells, Pt.slots] at X20 l20 y20 z20 st20 hQ20
  subst l20 y20 z20
  obtain ⟨hcase20, rfl, hp20⟩ := hQ20
  have N20q : Fr n0 ([] : List Loc) := Fr.nil n0
  have hv20 : _ = some (Value.int 0) := hcase20.elim (fun q => absurd q.2 (by decide)) (fun q => q.1)
  subst hv20
  have N20 := Fr.app N10 N20q
  obtain ⟨cl21, Ar21, q21, Sz21, Nn21, Hs21, Gf21⟩ := id F10_0
  have hin22 : ¬ ((1 : Int32) < 0 ∨ cl21.slots.size ≤ ((1 : Int32)).toNatClampNeg) := inb_of Sz21 ⟨by decide, by decide⟩
  have hat23 : cl21.slots[((1 : Int32)).toNatClampNeg]? = some (.ref a_PERSON) := Hs21.at hin22 rfl
  obtain ⟨T24, X24, e24, st24⟩ := getF X20 hx hZ hown (host := "") (Or.inl (own_w hw 54 rfl)) Via.refl hp20 (F_PERSON_word.ext O10.2) (g := (mkF m 21 #[.val (.ref q0), .val (.ref b10), .val (.int (3 : Int32)), .val (.int (1 : Int32)), .val (.ref a_PERSON)] [(.ref a_PERSON)])) rfl rfl (hb hby d_prog_32_method_4_code_21)
  obtain ⟨cq25, kq25, q25a, q25b, q25c⟩ := isOf hZ e24 (E_PERSON_word.ext O10.2)
  obtain ⟨_, _, ⟨T25, L25, k25, n25⟩, -, X25, ⟨Lc25, hQ25, l25, y25, z25⟩, st25⟩ := X24.virtualBack hx (y := own_m1) (z := own_m1) hown (mvT hZ (own_w hw 56 rfl)) (mvT hZ (own_w hw 57 rfl)) (notFace_of_selects (args := #[]) (mvT hZ (own_w hw 59 rfl))) (mvT hZ (own_w hw 59 rfl)) (mvT hZ (own_w hw 58 rfl)) (by decide) (StrChars.Road.eqW (W := 0) hZ (own_heq hw) (kI := 4) (own_w hw 6 rfl) (E_PERSON_word.ext O10.2) (F_PERSON_word_value.ext O10.2) (F_PERSON_word_coder.ext O10.2) (Aw_PERSON.ext O10.2) own_cd_PERSON (own_up _ own_bd_PERSON) (Nat.le_of_ble_eq_true rfl) f16 f17 f18 f19 own_cd_OBJECT (own_up _ own_bd_OBJECT) (Nat.le_of_ble_eq_true rfl) (S_COMPACT_STRINGS.ext O10.2) nz_COMPACT_STRINGS (by decide) (by decide)) q25a q25c (g := (mkF m 25 #[.val (.ref q0), .val (.ref b10), .val (.int (3 : Int32)), .val (.int (1 : Int32)), .val (.ref a_PERSON)] [(.ref q0), (.ref a_PERSON_word)])) rfl (by rw [hml]; rfl) (Steps.refl _) (argsL := [(.ref q0)]) (rest := []) (lenOf pd__Ljava_lang_Object__Z rfl) rfl (by show 2 * 0 + _ ≤ _; exact Nat.le_of_eq rfl) (hb hby d_prog_32_method_4_code_25) (fun _ _ => ⟨rfl, e24, (by decide : 1 + 0 ≤ _), (by decide : 3 + 0 ≤ _)⟩)
  dsimp only [Pt.U, Pt.locs, Pt.cells, Pt.slots] at X25 l25 y25 z25 st25 hQ25
  subst l25 y25 z25
  obtain ⟨hcase25, rfl, hp25⟩ := hQ25
  have N25q : Fr n0 ([] : List Loc) := Fr.nil n0
  have hv25 : _ = some (Value.int 0) := hcase25.elim (fun q => absurd q.2 (by decide)) (fun q => q.1)
  subst hv25
  have N25 := Fr.app N20 N25q
  obtain ⟨cl26, Ar26, q26, Sz26, Nn26, Hs26, Gf26⟩ := id F10_0
  have hin27 : ¬ ((2 : Int32) < 0 ∨ cl26.slots.size ≤ ((2 : Int32)).toNatClampNeg) := inb_of Sz26 ⟨by decide, by decide⟩
  have hat28 : cl26.slots[((2 : Int32)).toNatClampNeg]? = some (.ref a_OBJECT) := Hs26.at hin27 rfl
  obtain ⟨T29, X29, e29, st29⟩ := getF X25 hx hZ hown (host := "") (Or.inl (own_w hw 54 rfl)) Via.refl hp25 (F_OBJECT_word.ext O10.2) (g := (mkF m 21 #[.val (.ref q0), .val (.ref b10), .val (.int (3 : Int32)), .val (.int (2 : Int32)), .val (.ref a_OBJECT)] [(.ref a_OBJECT)])) rfl rfl (hb hby d_prog_32_method_4_code_21)
  obtain ⟨cq30, kq30, q30a, q30b, q30c⟩ := isOf hZ e29 (E_OBJECT_word.ext O10.2)
  obtain ⟨_, _, ⟨T30, L30, k30, n30⟩, -, X30, ⟨Lc30, hQ30, l30, y30, z30⟩, st30⟩ := X29.virtualBack hx (y := own_m1) (z := own_m1) hown (mvT hZ (own_w hw 56 rfl)) (mvT hZ (own_w hw 57 rfl)) (notFace_of_selects (args := #[]) (mvT hZ (own_w hw 59 rfl))) (mvT hZ (own_w hw 59 rfl)) (mvT hZ (own_w hw 58 rfl)) (by decide) (StrChars.Road.eqW (W := 0) hZ (own_heq hw) (kI := 4) (own_w hw 6 rfl) (E_OBJECT_word.ext O10.2) (F_OBJECT_word_value.ext O10.2) (F_OBJECT_word_coder.ext O10.2) (Aw_OBJECT.ext O10.2) own_cd_OBJECT (own_up _ own_bd_OBJECT) (Nat.le_of_ble_eq_true rfl) f16 f17 f18 f19 own_cd_OBJECT (own_up _ own_bd_OBJECT) (Nat.le_of_ble_eq_true rfl) (S_COMPACT_STRINGS.ext O10.2) nz_COMPACT_STRINGS (by decide) (by decide)) q30a q30c (g := (mkF m 25 #[.val (.ref q0), .val (.ref b10), .val (.int (3 : Int32)), .val (.int (2 : Int32)), .val (.ref a_OBJECT)] [(.ref q0), (.ref a_OBJECT_word)])) rfl (by rw [hml]; rfl) (Steps.refl _) (argsL := [(.ref q0)]) (rest := []) (lenOf pd__Ljava_lang_Object__Z rfl) rfl (by show 2 * 0 + _ ≤ _; exact Nat.le_of_eq rfl) (hb hby d_prog_32_method_4_code_25) (fun _ _ => ⟨rfl, e29, (by decide : 1 + 0 ≤ _), (by decide : 3 + 0 ≤ _)⟩)
  dsimp only [Pt.U, Pt.locs, Pt.cells, Pt.slots] at X30 l30 y30 z30 st30 hQ30
  subst l30 y30 z30
  obtain ⟨hcase30, rfl, hp30⟩ := hQ30
  have N30q : Fr n0 ([] : List Loc) := Fr.nil n0
  have hv30 : _ = some (Value.int 1) := hcase30.elim (fun q => q.1) (fun q => absurd rfl q.2)
  subst hv30
  have N30 := Fr.app N25 N30q
  have k31 : ∀ t, own_At p e below m T30 33 #[.val (.ref q0), .val (.ref b10), .val (.int (3 : Int32)), .val (.int (2 : Int32)), .val (.ref a_OBJECT)] [(.ref a_OBJECT)] t → own_En p e below m s₁ #[(.ref q0)] 5 t := by
    intro t k
    refine k00 t ?_
    refine st10 _ ?_
    show own_At p e below m T10 3 #[.val (.ref q0), .unset, .unset, .unset, .unset] [(.ref b10)] t
    refine XS.astoreN X10.here hx rfl (hb hby d_prog_32_method_4_code_3) rfl rfl (l' := #[.val (.ref q0), .val (.ref b10), .unset, .unset, .unset]) rfl ?_
    show own_At p e below m T10 4 #[.val (.ref q0), .val (.ref b10), .unset, .unset, .unset] [] t
    refine XS.aloadN X10.here hx rfl (hb hby d_prog_32_method_4_code_4) rfl rfl ?_
    show own_At p e below m T10 5 #[.val (.ref q0), .val (.ref b10), .unset, .unset, .unset] [(.ref b10)] t
    refine X10.arraylength hx (by exact Ar11.1) (State.isArrayOf_alike hZ.alike Ar11.2.1) (g := (mkF m 5 #[.val (.ref q0), .val (.ref b10), .unset, .unset, .unset] [(.ref b10)])) rfl rfl (hb hby d_prog_32_method_4_code_5) _ ?_
    rw [len_of Sz11 Nn11]
    show own_At p e below m T10 6 #[.val (.ref q0), .val (.ref b10), .unset, .unset, .unset] [(.int (3 : Int32))] t
    refine XS.istoreN X10.here hx rfl (hb hby d_prog_32_method_4_code_6) rfl (l' := #[.val (.ref q0), .val (.ref b10), .val (.int (3 : Int32)), .unset, .unset]) rfl ?_
    show own_At p e below m T10 7 #[.val (.ref q0), .val (.ref b10), .val (.int (3 : Int32)), .unset, .unset] [] t
    refine XS.iconst X10.here hx rfl (hb hby d_prog_32_method_4_code_7) ?_
    show own_At p e below m T10 8 #[.val (.ref q0), .val (.ref b10), .val (.int (3 : Int32)), .unset, .unset] [(.int (0 : Int32))] t
    refine XS.istoreN X10.here hx rfl (hb hby d_prog_32_method_4_code_8) rfl (l' := #[.val (.ref q0), .val (.ref b10), .val (.int (3 : Int32)), .val (.int (0 : Int32)), .unset]) rfl ?_
    show own_At p e below m T10 9 #[.val (.ref q0), .val (.ref b10), .val (.int (3 : Int32)), .val (.int (0 : Int32)), .unset] [] t
    refine XS.iloadN X10.here hx rfl (hb hby d_prog_32_method_4_code_9) rfl ?_
    show own_At p e below m T10 10 #[.val (.ref q0), .val (.ref b10), .val (.int (3 : Int32)), .val (.int (0 : Int32)), .unset] [(.int (0 : Int32))] t
    refine XS.iloadN X10.here hx rfl (hb hby d_prog_32_method_4_code_10) rfl ?_
    show own_At p e below m T10 11 #[.val (.ref q0), .val (.ref b10), .val (.int (3 : Int32)), .val (.int (0 : Int32)), .unset] [(.int (3 : Int32)), (.int (0 : Int32))] t
    refine XS.icmpNo X10.here hx rfl (hb hby d_prog_32_method_4_code_11) rfl (tlt (by decide : (0 : Int32) < (3 : Int32))).2.1 ?_
    show own_At p e below m T10 14 #[.val (.ref q0), .val (.ref b10), .val (.int (3 : Int32)), .val (.int (0 : Int32)), .unset] [] t
    refine XS.aloadN X10.here hx rfl (hb hby d_prog_32_method_4_code_14) rfl rfl ?_
    show own_At p e below m T10 15 #[.val (.ref q0), .val (.ref b10), .val (.int (3 : Int32)), .val (.int (0 : Int32)), .unset] [(.ref b10)] t
    refine XS.iloadN X10.here hx rfl (hb hby d_prog_32_method_4_code_15) rfl ?_
    show own_At p e below m T10 16 #[.val (.ref q0), .val (.ref b10), .val (.int (3 : Int32)), .val (.int (0 : Int32)), .unset] [(.int (0 : Int32)), (.ref b10)] t
    refine X10.aaload hx (j := (0 : Int32)) (v := (.ref a_DOMAIN)) (by exact Ar12.1) (State.isArrayOf_alike hZ.alike Ar12.2.1) rfl Ar12.2.2 hin13 hat14 (g := (mkF m 16 #[.val (.ref q0), .val (.ref b10), .val (.int (3 : Int32)), .val (.int (0 : Int32)), .unset] [(.int (0 : Int32)), (.ref b10)])) rfl rfl (hb hby d_prog_32_method_4_code_16) _ ?_
    show own_At p e below m T10 17 #[.val (.ref q0), .val (.ref b10), .val (.int (3 : Int32)), .val (.int (0 : Int32)), .unset] [(.ref a_DOMAIN)] t
    refine XS.astore X10.here hx rfl (hb hby d_prog_32_method_4_code_17) rfl rfl (l' := #[.val (.ref q0), .val (.ref b10), .val (.int (3 : Int32)), .val (.int (0 : Int32)), .val (.ref a_DOMAIN)]) rfl ?_
    show own_At p e below m T10 19 #[.val (.ref q0), .val (.ref b10), .val (.int (3 : Int32)), .val (.int (0 : Int32)), .val (.ref a_DOMAIN)] [] t
    refine XS.aload X10.here hx rfl (hb hby d_prog_32_method_4_code_19) rfl rfl ?_
    show own_At p e below m T10 21 #[.val (.ref q0), .val (.ref b10), .val (.int (3 : Int32)), .val (.int (0 : Int32)), .val (.ref a_DOMAIN)] [(.ref a_DOMAIN)] t
    refine st15 _ ?_
    show own_At p e below m T15 24 #[.val (.ref q0), .val (.ref b10), .val (.int (3 : Int32)), .val (.int (0 : Int32)), .val (.ref a_DOMAIN)] [(.ref a_DOMAIN_word)] t
    refine XS.aloadN X15.here hx rfl (hb hby d_prog_32_method_4_code_24) rfl rfl ?_
    show own_At p e below m T15 25 #[.val (.ref q0), .val (.ref b10), .val (.int (3 : Int32)), .val (.int (0 : Int32)), .val (.ref a_DOMAIN)] [(.ref q0), (.ref a_DOMAIN_word)] t
    refine st20.trans ?_
    show own_At p e below m T20 28 #[.val (.ref q0), .val (.ref b10), .val (.int (3 : Int32)), .val (.int (0 : Int32)), .val (.ref a_DOMAIN)] [(.int (0 : Int32))] t
    refine XS.ifYes X20.here hx rfl (pc0 := 28) (pc' := 34) rfl (hb hby d_prog_32_method_4_code_28) rfl ((if0 _ _).trans (teq (by decide : (0 : Int32) = (0 : Int32))).1) (by decide) (by decide) ?_
    show own_At p e below m T20 34 #[.val (.ref q0), .val (.ref b10), .val (.int (3 : Int32)), .val (.int (0 : Int32)), .val (.ref a_DOMAIN)] [] t
    refine XS.iinc X20.here hx rfl (hb hby d_prog_32_method_4_code_34) rfl (l' := #[.val (.ref q0), .val (.ref b10), .val (.int (3 : Int32)), .val (.int ((0 : Int32) + (1 : Int32))), .val (.ref a_DOMAIN)]) rfl ?_
    show own_At p e below m T20 37 #[.val (.ref q0), .val (.ref b10), .val (.int (3 : Int32)), .val (.int ((0 : Int32) + (1 : Int32))), .val (.ref a_DOMAIN)] [] t
    rw [show ((0 : Int32) + (1 : Int32)) = (1 : Int32) from by decide]
    show own_At p e below m T20 37 #[.val (.ref q0), .val (.ref b10), .val (.int (3 : Int32)), .val (.int (1 : Int32)), .val (.ref a_DOMAIN)] [] t
    refine XS.goto X20.here hx rfl (pc0 := 37) (pc' := 9) rfl (hb hby d_prog_32_method_4_code_37) (by decide) (by decide) ?_
    show own_At p e below m T20 9 #[.val (.ref q0), .val (.ref b10), .val (.int (3 : Int32)), .val (.int (1 : Int32)), .val (.ref a_DOMAIN)] [] t
    refine XS.iloadN X20.here hx rfl (hb hby d_prog_32_method_4_code_9) rfl ?_
    show own_At p e below m T20 10 #[.val (.ref q0), .val (.ref b10), .val (.int (3 : Int32)), .val (.int (1 : Int32)), .val (.ref a_DOMAIN)] [(.int (1 : Int32))] t
    refine XS.iloadN X20.here hx rfl (hb hby d_prog_32_method_4_code_10) rfl ?_
    show own_At p e below m T20 11 #[.val (.ref q0), .val (.ref b10), .val (.int (3 : Int32)), .val (.int (1 : Int32)), .val (.ref a_DOMAIN)] [(.int (3 : Int32)), (.int (1 : Int32))] t
    refine XS.icmpNo X20.here hx rfl (hb hby d_prog_32_method_4_code_11) rfl (tlt (by decide : (1 : Int32) < (3 : Int32))).2.1 ?_
    show own_At p e below m T20 14 #[.val (.ref q0), .val (.ref b10), .val (.int (3 : Int32)), .val (.int (1 : Int32)), .val (.ref a_DOMAIN)] [] t
    refine XS.aloadN X20.here hx rfl (hb hby d_prog_32_method_4_code_14) rfl rfl ?_
    show own_At p e below m T20 15 #[.val (.ref q0), .val (.ref b10), .val (.int (3 : Int32)), .val (.int (1 : Int32)), .val (.ref a_DOMAIN)] [(.ref b10)] t
    refine XS.iloadN X20.here hx rfl (hb hby d_prog_32_method_4_code_15) rfl ?_
    show own_At p e below m T20 16 #[.val (.ref q0), .val (.ref b10), .val (.int (3 : Int32)), .val (.int (1 : Int32)), .val (.ref a_DOMAIN)] [(.int (1 : Int32)), (.ref b10)] t
    refine X20.aaload hx (j := (1 : Int32)) (v := (.ref a_PERSON)) (by rw [hp20]; exact Ar21.1) (State.isArrayOf_alike hZ.alike Ar21.2.1) rfl Ar21.2.2 hin22 hat23 (g := (mkF m 16 #[.val (.ref q0), .val (.ref b10), .val (.int (3 : Int32)), .val (.int (1 : Int32)), .val (.ref a_DOMAIN)] [(.int (1 : Int32)), (.ref b10)])) rfl rfl (hb hby d_prog_32_method_4_code_16) _ ?_
    show own_At p e below m T20 17 #[.val (.ref q0), .val (.ref b10), .val (.int (3 : Int32)), .val (.int (1 : Int32)), .val (.ref a_DOMAIN)] [(.ref a_PERSON)] t
    refine XS.astore X20.here hx rfl (hb hby d_prog_32_method_4_code_17) rfl rfl (l' := #[.val (.ref q0), .val (.ref b10), .val (.int (3 : Int32)), .val (.int (1 : Int32)), .val (.ref a_PERSON)]) rfl ?_
    show own_At p e below m T20 19 #[.val (.ref q0), .val (.ref b10), .val (.int (3 : Int32)), .val (.int (1 : Int32)), .val (.ref a_PERSON)] [] t
    refine XS.aload X20.here hx rfl (hb hby d_prog_32_method_4_code_19) rfl rfl ?_
    show own_At p e below m T20 21 #[.val (.ref q0), .val (.ref b10), .val (.int (3 : Int32)), .val (.int (1 : Int32)), .val (.ref a_PERSON)] [(.ref a_PERSON)] t
    refine st24 _ ?_
    show own_At p e below m T24 24 #[.val (.ref q0), .val (.ref b10), .val (.int (3 : Int32)), .val (.int (1 : Int32)), .val (.ref a_PERSON)] [(.ref a_PERSON_word)] t
    refine XS.aloadN X24.here hx rfl (hb hby d_prog_32_method_4_code_24) rfl rfl ?_
    show own_At p e below m T24 25 #[.val (.ref q0), .val (.ref b10), .val (.int (3 : Int32)), .val (.int (1 : Int32)), .val (.ref a_PERSON)] [(.ref q0), (.ref a_PERSON_word)] t
    refine st25.trans ?_
    show own_At p e below m T25 28 #[.val (.ref q0), .val (.ref b10), .val (.int (3 : Int32)), .val (.int (1 : Int32)), .val (.ref a_PERSON)] [(.int (0 : Int32))] t
    refine XS.ifYes X25.here hx rfl (pc0 := 28) (pc' := 34) rfl (hb hby d_prog_32_method_4_code_28) rfl ((if0 _ _).trans (teq (by decide : (0 : Int32) = (0 : Int32))).1) (by decide) (by decide) ?_
    show own_At p e below m T25 34 #[.val (.ref q0), .val (.ref b10), .val (.int (3 : Int32)), .val (.int (1 : Int32)), .val (.ref a_PERSON)] [] t
    refine XS.iinc X25.here hx rfl (hb hby d_prog_32_method_4_code_34) rfl (l' := #[.val (.ref q0), .val (.ref b10), .val (.int (3 : Int32)), .val (.int ((1 : Int32) + (1 : Int32))), .val (.ref a_PERSON)]) rfl ?_
    show own_At p e below m T25 37 #[.val (.ref q0), .val (.ref b10), .val (.int (3 : Int32)), .val (.int ((1 : Int32) + (1 : Int32))), .val (.ref a_PERSON)] [] t
    rw [show ((1 : Int32) + (1 : Int32)) = (2 : Int32) from by decide]
    show own_At p e below m T25 37 #[.val (.ref q0), .val (.ref b10), .val (.int (3 : Int32)), .val (.int (2 : Int32)), .val (.ref a_PERSON)] [] t
    refine XS.goto X25.here hx rfl (pc0 := 37) (pc' := 9) rfl (hb hby d_prog_32_method_4_code_37) (by decide) (by decide) ?_
    show own_At p e below m T25 9 #[.val (.ref q0), .val (.ref b10), .val (.int (3 : Int32)), .val (.int (2 : Int32)), .val (.ref a_PERSON)] [] t
    refine XS.iloadN X25.here hx rfl (hb hby d_prog_32_method_4_code_9) rfl ?_
    show own_At p e below m T25 10 #[.val (.ref q0), .val (.ref b10), .val (.int (3 : Int32)), .val (.int (2 : Int32)), .val (.ref a_PERSON)] [(.int (2 : Int32))] t
    refine XS.iloadN X25.here hx rfl (hb hby d_prog_32_method_4_code_10) rfl ?_
    show own_At p e below m T25 11 #[.val (.ref q0), .val (.ref b10), .val (.int (3 : Int32)), .val (.int (2 : Int32)), .val (.ref a_PERSON)] [(.int (3 : Int32)), (.int (2 : Int32))] t
    refine XS.icmpNo X25.here hx rfl (hb hby d_prog_32_method_4_code_11) rfl (tlt (by decide : (2 : Int32) < (3 : Int32))).2.1 ?_
    show own_At p e below m T25 14 #[.val (.ref q0), .val (.ref b10), .val (.int (3 : Int32)), .val (.int (2 : Int32)), .val (.ref a_PERSON)] [] t
    refine XS.aloadN X25.here hx rfl (hb hby d_prog_32_method_4_code_14) rfl rfl ?_
    show own_At p e below m T25 15 #[.val (.ref q0), .val (.ref b10), .val (.int (3 : Int32)), .val (.int (2 : Int32)), .val (.ref a_PERSON)] [(.ref b10)] t
    refine XS.iloadN X25.here hx rfl (hb hby d_prog_32_method_4_code_15) rfl ?_
    show own_At p e below m T25 16 #[.val (.ref q0), .val (.ref b10), .val (.int (3 : Int32)), .val (.int (2 : Int32)), .val (.ref a_PERSON)] [(.int (2 : Int32)), (.ref b10)] t
    refine X25.aaload hx (j := (2 : Int32)) (v := (.ref a_OBJECT)) (by rw [hp25]; exact Ar26.1) (State.isArrayOf_alike hZ.alike Ar26.2.1) rfl Ar26.2.2 hin27 hat28 (g := (mkF m 16 #[.val (.ref q0), .val (.ref b10), .val (.int (3 : Int32)), .val (.int (2 : Int32)), .val (.ref a_PERSON)] [(.int (2 : Int32)), (.ref b10)])) rfl rfl (hb hby d_prog_32_method_4_code_16) _ ?_
    show own_At p e below m T25 17 #[.val (.ref q0), .val (.ref b10), .val (.int (3 : Int32)), .val (.int (2 : Int32)), .val (.ref a_PERSON)] [(.ref a_OBJECT)] t
    refine XS.astore X25.here hx rfl (hb hby d_prog_32_method_4_code_17) rfl rfl (l' := #[.val (.ref q0), .val (.ref b10), .val (.int (3 : Int32)), .val (.int (2 : Int32)), .val (.ref a_OBJECT)]) rfl ?_
    show own_At p e below m T25 19 #[.val (.ref q0), .val (.ref b10), .val (.int (3 : Int32)), .val (.int (2 : Int32)), .val (.ref a_OBJECT)] [] t
    refine XS.aload X25.here hx rfl (hb hby d_prog_32_method_4_code_19) rfl rfl ?_
    show own_At p e below m T25 21 #[.val (.ref q0), .val (.ref b10), .val (.int (3 : Int32)), .val (.int (2 : Int32)), .val (.ref a_OBJECT)] [(.ref a_OBJECT)] t
    refine st29 _ ?_
    show own_At p e below m T29 24 #[.val (.ref q0), .val (.ref b10), .val (.int (3 : Int32)), .val (.int (2 : Int32)), .val (.ref a_OBJECT)] [(.ref a_OBJECT_word)] t
    refine XS.aloadN X29.here hx rfl (hb hby d_prog_32_method_4_code_24) rfl rfl ?_
    show own_At p e below m T29 25 #[.val (.ref q0), .val (.ref b10), .val (.int (3 : Int32)), .val (.int (2 : Int32)), .val (.ref a_OBJECT)] [(.ref q0), (.ref a_OBJECT_word)] t
    refine st30.trans ?_
    show own_At p e below m T30 28 #[.val (.ref q0), .val (.ref b10), .val (.int (3 : Int32)), .val (.int (2 : Int32)), .val (.ref a_OBJECT)] [(.int (1 : Int32))] t
    refine XS.ifNo X30.here hx rfl (hb hby d_prog_32_method_4_code_28) rfl ((if0 _ _).trans (feq (by decide : ¬ ((1 : Int32) = (0 : Int32)))).1) ?_
    show own_At p e below m T30 31 #[.val (.ref q0), .val (.ref b10), .val (.int (3 : Int32)), .val (.int (2 : Int32)), .val (.ref a_OBJECT)] [] t
    refine XS.aload X30.here hx rfl (hb hby d_prog_32_method_4_code_31) rfl rfl ?_
    show own_At p e below m T30 33 #[.val (.ref q0), .val (.ref b10), .val (.int (3 : Int32)), .val (.int (2 : Int32)), .val (.ref a_OBJECT)] [(.ref a_OBJECT)] t
    exact k
  obtain ⟨fs, hr, hrun, hended, hW, hsame⟩ := X30.leave (v := some (.ref a_OBJECT)) (fun h => by rw [Bd.returns] at h; cases h)
  refine hNG ⟨_, _, k31 _ ?_, hrun, hended, _, _, rfl, ?_, ⟨_, rfl⟩, hW, hsame.mono (by decide) (by decide)⟩
  · exact retOut X30 hx (t := (.object "com/example/scoped_authority/scopedauthority/Kind")) Bd.returns rfl (Or.inr (Or.inr (Or.inr (Or.inr ⟨rfl, rfl, rfl⟩)))) (hb hby d_prog_32_method_4_code_33) hr
  · show Q_fw_OBJECT Z q0 t0 k0 a_DOMAIN a__VALUES a_PERSON a_OBJECT a_DOMAIN_word a_DOMAIN_word_value a_PERSON_word a_PERSON_word_value a_OBJECT_word a_OBJECT_word_value z_COMPACT_STRINGS r_SIOOBE_FORMATTER h0 n0 _ T30.heap _
    rw [hp30]
    exact ⟨rfl, N30, O10, K10⟩
theorem ef_law (m : MethodId) (x0 : Int32)  : entryFrame m #[(.int x0)] maxLocals = mkF m 0 #[.val (.int x0), .unset, .unset, .unset, .unset, .unset, .unset] [] := by first | (simp [entryFrame, mkF, argsToLocals, Value.category, maxLocals]; done) | rfl
theorem pd___C_V : parseMethodDescriptor "([C)V" = some ⟨[(.array .char)], none⟩ := by decide +kernel
abbrev own_m3 : MethodName := ⟨"java/lang/String", "<init>", "([C)V"⟩
theorem pd__Ljava_lang_String__Lcom_example_scoped_authority_scopedauthority_Kind_ : parseMethodDescriptor "(Ljava/lang/String;)Lcom/example/scoped_authority/scopedauthority/Kind;" = some ⟨[(.object "java/lang/String")], some (.object "com/example/scoped_authority/scopedauthority/Kind")⟩ := by decide +kernel
theorem ef_f1 (m : MethodId) (x0 : Addr)  : entryFrame m #[(.ref x0)] 1 = mkF m 0 #[.val (.ref x0)] [] := by first | (simp [entryFrame, mkF, argsToLocals, Value.category]; done) | rfl
theorem d_prog_32_method_5_code_0 : decode prog_32_method_5_code 0 = .ok (.aload_n 0, 1) := by decide +kernel
theorem d_prog_32_method_5_code_1 : decode prog_32_method_5_code 1 = .ok (.getfield 32, 3) := by decide +kernel
theorem d_prog_32_method_5_code_4 : decode prog_32_method_5_code 4 = .ok (.areturn, 1) := by decide +kernel
abbrev own_m4 : MethodName := ⟨"com/example/scoped_authority/scopedauthority/Kind", "word", "()Ljava/lang/String;"⟩
def Q_f1 (Z : State) (a_DOMAIN : Addr) (a__VALUES : Addr) (a_PERSON : Addr) (a_OBJECT : Addr) (a_DOMAIN_word : Addr) (a_DOMAIN_word_value : Addr) (a_PERSON_word : Addr) (a_PERSON_word_value : Addr) (a_OBJECT_word : Addr) (a_OBJECT_word_value : Addr) (z_COMPACT_STRINGS : Int32) (r_SIOOBE_FORMATTER : Value) (h0 : Heap) (n0 : Nat) (v : Option Value) (h : Heap) (L : List Loc) : Prop := v = some (.ref a_DOMAIN_word) ∧ Fr n0 L ∧ h = h0
set_option maxRecDepth 65536 in
set_option maxHeartbeats 40000000 in
theorem rm_f1 (l : Launch) (Z : State) (a0 : Array Value) (hw : ∀ d ∈ tables_1, d.before a0 Z = true) (ws : List Jvm.Cond) (a_DOMAIN : Addr) (a__VALUES : Addr) (a_PERSON : Addr) (a_OBJECT : Addr) (a_DOMAIN_word : Addr) (a_DOMAIN_word_value : Addr) (a_PERSON_word : Addr) (a_PERSON_word_value : Addr) (a_OBJECT_word : Addr) (a_OBJECT_word_value : Addr) (z_COMPACT_STRINGS : Int32) (r_SIOOBE_FORMATTER : Value) (h0 : Heap) (n0 : Nat) (O0 : Old Z n0 h0) (hE : EV Z a_DOMAIN a__VALUES a_PERSON a_OBJECT a_DOMAIN_word a_DOMAIN_word_value a_PERSON_word a_PERSON_word_value a_OBJECT_word a_OBJECT_word_value z_COMPACT_STRINGS r_SIOOBE_FORMATTER) :
    MetFree l own_m4 (head1 (Jvm.Cond.code own_m4 prog_32_method_5_code 1 (some (.object "java/lang/String")) :: ws) ({ frames := 0, cells := 0, slots := 0, locals := 0 } : Room)) (fun a U => a = #[(.ref a_DOMAIN)] ∧ Z.Warmed39 U.vm ∧ U.heap = h0) (fun _ _ _ _ _ => True) (fun _ U o U' => ∃ v L, o = .returned v ∧ Q_f1 Z a_DOMAIN a__VALUES a_PERSON a_OBJECT a_DOMAIN_word a_DOMAIN_word_value a_PERSON_word a_PERSON_word_value a_OBJECT_word a_OBJECT_word_value z_COMPACT_STRINGS r_SIOOBE_FORMATTER h0 n0 v U'.heap L ∧ FrameEnd U o U' L ({ frames := 0, cells := 0, slots := 0, locals := 0 } : Room).cells ({ frames := 0, cells := 0, slots := 0, locals := 0 } : Room).slots) := by
  refine MetFree.of_bodySF (plainFor_of_name pn_com_example_scoped_authority_scopedauthority_Kind) hisR ?_
  intro p e s m args below meth c s₁ Bd hml0 hP hK
  obtain ⟨rfl, hZ, hh⟩ := hP
  have hx := Bd.exec
  have hby := Bd.bytes
  have hml : c.maxLocals = 1 := hml0
  have hown : s.vm.findClass "com/example/scoped_authority/scopedauthority/Kind" = some m.cls := findClass_of_methodNamed Bd.named
  have hnm := (name_of_methodNamed Bd.named Bd.method).1
  have X00 : Stand p l e ({ frames := 0, cells := 0, slots := 0, locals := 0 } : Room) s m #[(.ref a_DOMAIN)] below meth c s₁ [] 0 0 := Stand.of_body Bd
  have e00 : s₁.heap = h0 := by rw [← hh, Bd.state]; rfl
  have N00 := Fr.nil n0
  refine Classical.byContradiction fun hNG => ?_
  have K00 := Keep.refl h0 []
  have k00 : ∀ t, own_At p e below m s₁ 0 #[.val (.ref a_DOMAIN)] [] t → own_En p e below m s₁ #[(.ref a_DOMAIN)] 1 t := fun t k => castTop (ef_f1 m a_DOMAIN ) k
  obtain ⟨S_DOMAIN, E_DOMAIN, S__VALUES, E__VALUES, S_PERSON, E_PERSON, S_OBJECT, E_OBJECT, F_DOMAIN_word, E_DOMAIN_word, F_DOMAIN_word_coder, F_DOMAIN_word_value, F_PERSON_word, E_PERSON_word, F_PERSON_word_coder, F_PERSON_word_value, F_OBJECT_word, E_OBJECT_word, F_OBJECT_word_coder, F_OBJECT_word_value, ne_DOMAIN_word_OBJECT_word, ne_OBJECT_word_PERSON_word, ne_DOMAIN_word_PERSON_word, S_COMPACT_STRINGS, nz_COMPACT_STRINGS, S_SIOOBE_FORMATTER, iS_SIOOBE_FORMATTER, C__VALUES, C_DOMAIN_word_value, C_PERSON_word_value, C_OBJECT_word_value⟩ := (id hE : EV Z a_DOMAIN a__VALUES a_PERSON a_OBJECT a_DOMAIN_word a_DOMAIN_word_value a_PERSON_word a_PERSON_word_value a_OBJECT_word a_OBJECT_word_value z_COMPACT_STRINGS r_SIOOBE_FORMATTER)
  obtain ⟨T10, X10, e10, st10⟩ := getF X00 hx hZ hown (host := "") (Or.inl (own_w hw 54 rfl)) Via.refl e00 (F_DOMAIN_word.ext O0.2) (g := (mkF m 1 #[.val (.ref a_DOMAIN)] [(.ref a_DOMAIN)])) rfl rfl (hb hby d_prog_32_method_5_code_1)
  have k11 : ∀ t, own_At p e below m T10 4 #[.val (.ref a_DOMAIN)] [(.ref a_DOMAIN_word)] t → own_En p e below m s₁ #[(.ref a_DOMAIN)] 1 t := by
    intro t k
    refine k00 t ?_
    refine XS.aloadN X00.here hx rfl (hb hby d_prog_32_method_5_code_0) rfl rfl ?_
    show own_At p e below m s₁ 1 #[.val (.ref a_DOMAIN)] [(.ref a_DOMAIN)] t
    refine st10 _ ?_
    show own_At p e below m T10 4 #[.val (.ref a_DOMAIN)] [(.ref a_DOMAIN_word)] t
    exact k
  obtain ⟨fs, hr, hrun, hended, hW, hsame⟩ := X10.leave (v := some (.ref a_DOMAIN_word)) (fun h => by rw [Bd.returns] at h; cases h)
  refine hNG ⟨_, _, k11 _ ?_, hrun, hended, _, _, rfl, ?_, ⟨_, rfl⟩, hW, hsame.mono (by decide) (by decide)⟩
  · exact retOut X10 hx (t := (.object "java/lang/String")) Bd.returns rfl (Or.inr (Or.inr (Or.inr (Or.inr ⟨rfl, rfl, rfl⟩)))) (hb hby d_prog_32_method_5_code_4) hr
  · show Q_f1 Z a_DOMAIN a__VALUES a_PERSON a_OBJECT a_DOMAIN_word a_DOMAIN_word_value a_PERSON_word a_PERSON_word_value a_OBJECT_word a_OBJECT_word_value z_COMPACT_STRINGS r_SIOOBE_FORMATTER h0 n0 _ T10.heap _
    rw [e10]
    exact ⟨rfl, N00, rfl⟩
theorem pd___Ljava_lang_String_ : parseMethodDescriptor "()Ljava/lang/String;" = some ⟨[], some (.object "java/lang/String")⟩ := by decide +kernel
theorem ef_f2 (m : MethodId) (x0 : Addr)  : entryFrame m #[(.ref x0)] 1 = mkF m 0 #[.val (.ref x0)] [] := by first | (simp [entryFrame, mkF, argsToLocals, Value.category]; done) | rfl
def Q_f2 (Z : State) (a_DOMAIN : Addr) (a__VALUES : Addr) (a_PERSON : Addr) (a_OBJECT : Addr) (a_DOMAIN_word : Addr) (a_DOMAIN_word_value : Addr) (a_PERSON_word : Addr) (a_PERSON_word_value : Addr) (a_OBJECT_word : Addr) (a_OBJECT_word_value : Addr) (z_COMPACT_STRINGS : Int32) (r_SIOOBE_FORMATTER : Value) (h0 : Heap) (n0 : Nat) (v : Option Value) (h : Heap) (L : List Loc) : Prop := v = some (.ref a_PERSON_word) ∧ Fr n0 L ∧ h = h0
set_option maxRecDepth 65536 in
set_option maxHeartbeats 40000000 in
theorem rm_f2 (l : Launch) (Z : State) (a0 : Array Value) (hw : ∀ d ∈ tables_1, d.before a0 Z = true) (ws : List Jvm.Cond) (a_DOMAIN : Addr) (a__VALUES : Addr) (a_PERSON : Addr) (a_OBJECT : Addr) (a_DOMAIN_word : Addr) (a_DOMAIN_word_value : Addr) (a_PERSON_word : Addr) (a_PERSON_word_value : Addr) (a_OBJECT_word : Addr) (a_OBJECT_word_value : Addr) (z_COMPACT_STRINGS : Int32) (r_SIOOBE_FORMATTER : Value) (h0 : Heap) (n0 : Nat) (O0 : Old Z n0 h0) (hE : EV Z a_DOMAIN a__VALUES a_PERSON a_OBJECT a_DOMAIN_word a_DOMAIN_word_value a_PERSON_word a_PERSON_word_value a_OBJECT_word a_OBJECT_word_value z_COMPACT_STRINGS r_SIOOBE_FORMATTER) :
    MetFree l own_m4 (head1 (Jvm.Cond.code own_m4 prog_32_method_5_code 1 (some (.object "java/lang/String")) :: ws) ({ frames := 0, cells := 0, slots := 0, locals := 0 } : Room)) (fun a U => a = #[(.ref a_PERSON)] ∧ Z.Warmed39 U.vm ∧ U.heap = h0) (fun _ _ _ _ _ => True) (fun _ U o U' => ∃ v L, o = .returned v ∧ Q_f2 Z a_DOMAIN a__VALUES a_PERSON a_OBJECT a_DOMAIN_word a_DOMAIN_word_value a_PERSON_word a_PERSON_word_value a_OBJECT_word a_OBJECT_word_value z_COMPACT_STRINGS r_SIOOBE_FORMATTER h0 n0 v U'.heap L ∧ FrameEnd U o U' L ({ frames := 0, cells := 0, slots := 0, locals := 0 } : Room).cells ({ frames := 0, cells := 0, slots := 0, locals := 0 } : Room).slots) := by
  refine MetFree.of_bodySF (plainFor_of_name pn_com_example_scoped_authority_scopedauthority_Kind) hisR ?_
  intro p e s m args below meth c s₁ Bd hml0 hP hK
  obtain ⟨rfl, hZ, hh⟩ := hP
  have hx := Bd.exec
  have hby := Bd.bytes
  have hml : c.maxLocals = 1 := hml0
  have hown : s.vm.findClass "com/example/scoped_authority/scopedauthority/Kind" = some m.cls := findClass_of_methodNamed Bd.named
  have hnm := (name_of_methodNamed Bd.named Bd.method).1
  have X00 : Stand p l e ({ frames := 0, cells := 0, slots := 0, locals := 0 } : Room) s m #[(.ref a_PERSON)] below meth c s₁ [] 0 0 := Stand.of_body Bd
  have e00 : s₁.heap = h0 := by rw [← hh, Bd.state]; rfl
  have N00 := Fr.nil n0
  refine Classical.byContradiction fun hNG => ?_
  have K00 := Keep.refl h0 []
  have k00 : ∀ t, own_At p e below m s₁ 0 #[.val (.ref a_PERSON)] [] t → own_En p e below m s₁ #[(.ref a_PERSON)] 1 t := fun t k => castTop (ef_f2 m a_PERSON ) k
  obtain ⟨S_DOMAIN, E_DOMAIN, S__VALUES, E__VALUES, S_PERSON, E_PERSON, S_OBJECT, E_OBJECT, F_DOMAIN_word, E_DOMAIN_word, F_DOMAIN_word_coder, F_DOMAIN_word_value, F_PERSON_word, E_PERSON_word, F_PERSON_word_coder, F_PERSON_word_value, F_OBJECT_word, E_OBJECT_word, F_OBJECT_word_coder, F_OBJECT_word_value, ne_DOMAIN_word_OBJECT_word, ne_OBJECT_word_PERSON_word, ne_DOMAIN_word_PERSON_word, S_COMPACT_STRINGS, nz_COMPACT_STRINGS, S_SIOOBE_FORMATTER, iS_SIOOBE_FORMATTER, C__VALUES, C_DOMAIN_word_value, C_PERSON_word_value, C_OBJECT_word_value⟩ := (id hE : EV Z a_DOMAIN a__VALUES a_PERSON a_OBJECT a_DOMAIN_word a_DOMAIN_word_value a_PERSON_word a_PERSON_word_value a_OBJECT_word a_OBJECT_word_value z_COMPACT_STRINGS r_SIOOBE_FORMATTER)
  obtain ⟨T10, X10, e10, st10⟩ := getF X00 hx hZ hown (host := "") (Or.inl (own_w hw 54 rfl)) Via.refl e00 (F_PERSON_word.ext O0.2) (g := (mkF m 1 #[.val (.ref a_PERSON)] [(.ref a_PERSON)])) rfl rfl (hb hby d_prog_32_method_5_code_1)
  have k11 : ∀ t, own_At p e below m T10 4 #[.val (.ref a_PERSON)] [(.ref a_PERSON_word)] t → own_En p e below m s₁ #[(.ref a_PERSON)] 1 t := by
    intro t k
    refine k00 t ?_
    refine XS.aloadN X00.here hx rfl (hb hby d_prog_32_method_5_code_0) rfl rfl ?_
    show own_At p e below m s₁ 1 #[.val (.ref a_PERSON)] [(.ref a_PERSON)] t
    refine st10 _ ?_
    show own_At p e below m T10 4 #[.val (.ref a_PERSON)] [(.ref a_PERSON_word)] t
    exact k
  obtain ⟨fs, hr, hrun, hended, hW, hsame⟩ := X10.leave (v := some (.ref a_PERSON_word)) (fun h => by rw [Bd.returns] at h; cases h)
  refine hNG ⟨_, _, k11 _ ?_, hrun, hended, _, _, rfl, ?_, ⟨_, rfl⟩, hW, hsame.mono (by decide) (by decide)⟩
  · exact retOut X10 hx (t := (.object "java/lang/String")) Bd.returns rfl (Or.inr (Or.inr (Or.inr (Or.inr ⟨rfl, rfl, rfl⟩)))) (hb hby d_prog_32_method_5_code_4) hr
  · show Q_f2 Z a_DOMAIN a__VALUES a_PERSON a_OBJECT a_DOMAIN_word a_DOMAIN_word_value a_PERSON_word a_PERSON_word_value a_OBJECT_word a_OBJECT_word_value z_COMPACT_STRINGS r_SIOOBE_FORMATTER h0 n0 _ T10.heap _
    rw [e10]
    exact ⟨rfl, N00, rfl⟩
theorem ef_f3 (m : MethodId) (x0 : Addr)  : entryFrame m #[(.ref x0)] 1 = mkF m 0 #[.val (.ref x0)] [] := by first | (simp [entryFrame, mkF, argsToLocals, Value.category]; done) | rfl
def Q_f3 (Z : State) (a_DOMAIN : Addr) (a__VALUES : Addr) (a_PERSON : Addr) (a_OBJECT : Addr) (a_DOMAIN_word : Addr) (a_DOMAIN_word_value : Addr) (a_PERSON_word : Addr) (a_PERSON_word_value : Addr) (a_OBJECT_word : Addr) (a_OBJECT_word_value : Addr) (z_COMPACT_STRINGS : Int32) (r_SIOOBE_FORMATTER : Value) (h0 : Heap) (n0 : Nat) (v : Option Value) (h : Heap) (L : List Loc) : Prop := v = some (.ref a_OBJECT_word) ∧ Fr n0 L ∧ h = h0
set_option maxRecDepth 65536 in
set_option maxHeartbeats 40000000 in
theorem rm_f3 (l : Launch) (Z : State) (a0 : Array Value) (hw : ∀ d ∈ tables_1, d.before a0 Z = true) (ws : List Jvm.Cond) (a_DOMAIN : Addr) (a__VALUES : Addr) (a_PERSON : Addr) (a_OBJECT : Addr) (a_DOMAIN_word : Addr) (a_DOMAIN_word_value : Addr) (a_PERSON_word : Addr) (a_PERSON_word_value : Addr) (a_OBJECT_word : Addr) (a_OBJECT_word_value : Addr) (z_COMPACT_STRINGS : Int32) (r_SIOOBE_FORMATTER : Value) (h0 : Heap) (n0 : Nat) (O0 : Old Z n0 h0) (hE : EV Z a_DOMAIN a__VALUES a_PERSON a_OBJECT a_DOMAIN_word a_DOMAIN_word_value a_PERSON_word a_PERSON_word_value a_OBJECT_word a_OBJECT_word_value z_COMPACT_STRINGS r_SIOOBE_FORMATTER) :
    MetFree l own_m4 (head1 (Jvm.Cond.code own_m4 prog_32_method_5_code 1 (some (.object "java/lang/String")) :: ws) ({ frames := 0, cells := 0, slots := 0, locals := 0 } : Room)) (fun a U => a = #[(.ref a_OBJECT)] ∧ Z.Warmed39 U.vm ∧ U.heap = h0) (fun _ _ _ _ _ => True) (fun _ U o U' => ∃ v L, o = .returned v ∧ Q_f3 Z a_DOMAIN a__VALUES a_PERSON a_OBJECT a_DOMAIN_word a_DOMAIN_word_value a_PERSON_word a_PERSON_word_value a_OBJECT_word a_OBJECT_word_value z_COMPACT_STRINGS r_SIOOBE_FORMATTER h0 n0 v U'.heap L ∧ FrameEnd U o U' L ({ frames := 0, cells := 0, slots := 0, locals := 0 } : Room).cells ({ frames := 0, cells := 0, slots := 0, locals := 0 } : Room).slots) := by
  refine MetFree.of_bodySF (plainFor_of_name pn_com_example_scoped_authority_scopedauthority_Kind) hisR ?_
  intro p e s m args below meth c s₁ Bd hml0 hP hK
  obtain ⟨rfl, hZ, hh⟩ := hP
  have hx := Bd.exec
  have hby := Bd.bytes
  have hml : c.maxLocals = 1 := hml0
  have hown : s.vm.findClass "com/example/scoped_authority/scopedauthority/Kind" = some m.cls := findClass_of_methodNamed Bd.named
  have hnm := (name_of_methodNamed Bd.named Bd.method).1
  have X00 : Stand p l e ({ frames := 0, cells := 0, slots := 0, locals := 0 } : Room) s m #[(.ref a_OBJECT)] below meth c s₁ [] 0 0 := Stand.of_body Bd
  have e00 : s₁.heap = h0 := by rw [← hh, Bd.state]; rfl
  have N00 := Fr.nil n0
  refine Classical.byContradiction fun hNG => ?_
  have K00 := Keep.refl h0 []
  have k00 : ∀ t, own_At p e below m s₁ 0 #[.val (.ref a_OBJECT)] [] t → own_En p e below m s₁ #[(.ref a_OBJECT)] 1 t := fun t k => castTop (ef_f3 m a_OBJECT ) k
  obtain ⟨S_DOMAIN, E_DOMAIN, S__VALUES, E__VALUES, S_PERSON, E_PERSON, S_OBJECT, E_OBJECT, F_DOMAIN_word, E_DOMAIN_word, F_DOMAIN_word_coder, F_DOMAIN_word_value, F_PERSON_word, E_PERSON_word, F_PERSON_word_coder, F_PERSON_word_value, F_OBJECT_word, E_OBJECT_word, F_OBJECT_word_coder, F_OBJECT_word_value, ne_DOMAIN_word_OBJECT_word, ne_OBJECT_word_PERSON_word, ne_DOMAIN_word_PERSON_word, S_COMPACT_STRINGS, nz_COMPACT_STRINGS, S_SIOOBE_FORMATTER, iS_SIOOBE_FORMATTER, C__VALUES, C_DOMAIN_word_value, C_PERSON_word_value, C_OBJECT_word_value⟩ := (id hE : EV Z a_DOMAIN a__VALUES a_PERSON a_OBJECT a_DOMAIN_word a_DOMAIN_word_value a_PERSON_word a_PERSON_word_value a_OBJECT_word a_OBJECT_word_value z_COMPACT_STRINGS r_SIOOBE_FORMATTER)
  obtain ⟨T10, X10, e10, st10⟩ := getF X00 hx hZ hown (host := "") (Or.inl (own_w hw 54 rfl)) Via.refl e00 (F_OBJECT_word.ext O0.2) (g := (mkF m 1 #[.val (.ref a_OBJECT)] [(.ref a_OBJECT)])) rfl rfl (hb hby d_prog_32_method_5_code_1)
  have k11 : ∀ t, own_At p e below m T10 4 #[.val (.ref a_OBJECT)] [(.ref a_OBJECT_word)] t → own_En p e below m s₁ #[(.ref a_OBJECT)] 1 t := by
    intro t k
    refine k00 t ?_
    refine XS.aloadN X00.here hx rfl (hb hby d_prog_32_method_5_code_0) rfl rfl ?_
    show own_At p e below m s₁ 1 #[.val (.ref a_OBJECT)] [(.ref a_OBJECT)] t
    refine st10 _ ?_
    show own_At p e below m T10 4 #[.val (.ref a_OBJECT)] [(.ref a_OBJECT_word)] t
    exact k
  obtain ⟨fs, hr, hrun, hended, hW, hsame⟩ := X10.leave (v := some (.ref a_OBJECT_word)) (fun h => by rw [Bd.returns] at h; cases h)
  refine hNG ⟨_, _, k11 _ ?_, hrun, hended, _, _, rfl, ?_, ⟨_, rfl⟩, hW, hsame.mono (by decide) (by decide)⟩
  · exact retOut X10 hx (t := (.object "java/lang/String")) Bd.returns rfl (Or.inr (Or.inr (Or.inr (Or.inr ⟨rfl, rfl, rfl⟩)))) (hb hby d_prog_32_method_5_code_4) hr
  · show Q_f3 Z a_DOMAIN a__VALUES a_PERSON a_OBJECT a_DOMAIN_word a_DOMAIN_word_value a_PERSON_word a_PERSON_word_value a_OBJECT_word a_OBJECT_word_value z_COMPACT_STRINGS r_SIOOBE_FORMATTER h0 n0 _ T10.heap _
    rw [e10]
    exact ⟨rfl, N00, rfl⟩
theorem pn_com_example_scoped_authority_scopedauthority_KindFromWordPinLaw : plainName "com/example/scoped_authority/scopedauthority/KindFromWordPinLaw" = true := by first | (simp [plainName, overriddenIn]; done) | decide +kernel
def Q_law (Z : State) (p0 : Int32) (a_DOMAIN : Addr) (a__VALUES : Addr) (a_PERSON : Addr) (a_OBJECT : Addr) (a_DOMAIN_word : Addr) (a_DOMAIN_word_value : Addr) (a_PERSON_word : Addr) (a_PERSON_word_value : Addr) (a_OBJECT_word : Addr) (a_OBJECT_word_value : Addr) (z_COMPACT_STRINGS : Int32) (r_SIOOBE_FORMATTER : Value) (h0 : Heap) (n0 : Nat) (v : Option Value) (h : Heap) (L : List Loc) : Prop := v = some (.int (1 : Int32)) ∧ Fr n0 L
set_option maxRecDepth 65536 in
set_option maxHeartbeats 40000000 in
theorem rm_law (l : Launch) (Z : State) (a0 : Array Value) (hw : ∀ d ∈ tables_1, d.before a0 Z = true) (ws : List Jvm.Cond) (p0 : Int32) (a_DOMAIN : Addr) (a__VALUES : Addr) (a_PERSON : Addr) (a_OBJECT : Addr) (a_DOMAIN_word : Addr) (a_DOMAIN_word_value : Addr) (a_PERSON_word : Addr) (a_PERSON_word_value : Addr) (a_OBJECT_word : Addr) (a_OBJECT_word_value : Addr) (z_COMPACT_STRINGS : Int32) (r_SIOOBE_FORMATTER : Value) (h0 : Heap) (n0 : Nat) (O0 : Old Z n0 h0) (hE : EV Z a_DOMAIN a__VALUES a_PERSON a_OBJECT a_DOMAIN_word a_DOMAIN_word_value a_PERSON_word a_PERSON_word_value a_OBJECT_word a_OBJECT_word_value z_COMPACT_STRINGS r_SIOOBE_FORMATTER) :
    MetFree l x (head1 (Jvm.Cond.code x code maxLocals ret :: ws) room_1) (fun a U => a = #[(.int p0)] ∧ Z.Warmed39 U.vm ∧ U.heap = h0) (fun _ _ _ _ _ => True) (fun _ U o U' => ∃ v L, o = .returned v ∧ Q_law Z p0 a_DOMAIN a__VALUES a_PERSON a_OBJECT a_DOMAIN_word a_DOMAIN_word_value a_PERSON_word a_PERSON_word_value a_OBJECT_word a_OBJECT_word_value z_COMPACT_STRINGS r_SIOOBE_FORMATTER h0 n0 v U'.heap L ∧ FrameEnd U o U' L 5 22) := by
  refine MetFree.of_bodySF (plainFor_of_name pn_com_example_scoped_authority_scopedauthority_KindFromWordPinLaw) hisR ?_
  intro p e s m args below meth c s₁ Bd hml0 hP hK
  obtain ⟨rfl, hZ, hh⟩ := hP
  have hx := Bd.exec
  have hby := Bd.bytes
  have hml : c.maxLocals = 7 := hml0
  have hown : s.vm.findClass "com/example/scoped_authority/scopedauthority/KindFromWordPinLaw" = some m.cls := findClass_of_methodNamed Bd.named
  have hnm := (name_of_methodNamed Bd.named Bd.method).1
  have X00 : Stand p l e room_1 s m #[(.int p0)] below meth c s₁ [] 0 0 := Stand.of_body Bd
  have e00 : s₁.heap = h0 := by rw [← hh, Bd.state]; rfl
  have N00 := Fr.nil n0
  refine Classical.byContradiction fun hNG => ?_
  have K00 := Keep.refl h0 []
  have k00 : ∀ t, own_At p e below m s₁ 0 #[.val (.int p0), .unset, .unset, .unset, .unset, .unset, .unset] [] t → own_En p e below m s₁ #[(.int p0)] maxLocals t := fun t k => castTop (ef_law m p0 ) k
  obtain ⟨S_DOMAIN, E_DOMAIN, S__VALUES, E__VALUES, S_PERSON, E_PERSON, S_OBJECT, E_OBJECT, F_DOMAIN_word, E_DOMAIN_word, F_DOMAIN_word_coder, F_DOMAIN_word_value, F_PERSON_word, E_PERSON_word, F_PERSON_word_coder, F_PERSON_word_value, F_OBJECT_word, E_OBJECT_word, F_OBJECT_word_coder, F_OBJECT_word_value, ne_DOMAIN_word_OBJECT_word, ne_OBJECT_word_PERSON_word, ne_DOMAIN_word_PERSON_word, S_COMPACT_STRINGS, nz_COMPACT_STRINGS, S_SIOOBE_FORMATTER, iS_SIOOBE_FORMATTER, C__VALUES, C_DOMAIN_word_value, C_PERSON_word_value, C_OBJECT_word_value⟩ := (id hE : EV Z a_DOMAIN a__VALUES a_PERSON a_OBJECT a_DOMAIN_word a_DOMAIN_word_value a_PERSON_word a_PERSON_word_value a_OBJECT_word a_OBJECT_word_value z_COMPACT_STRINGS r_SIOOBE_FORMATTER)
  obtain ⟨kw_DOMAIN, Aw_DOMAIN⟩ := C_DOMAIN_word_value.arv
  obtain ⟨kw_PERSON, Aw_PERSON⟩ := C_PERSON_word_value.arv
  obtain ⟨kw_OBJECT, Aw_OBJECT⟩ := C_OBJECT_word_value.arv
  have k10 : ∀ t, own_At p e below m s₁ 8 #[.val (.int p0), .val (.int ((p0 &&& (2147483647 : Int32)) % (3 : Int32))), .unset, .unset, .unset, .unset, .unset] [(.int ((p0 &&& (2147483647 : Int32)) % (3 : Int32)))] t → own_En p e below m s₁ #[(.int p0)] maxLocals t := by
    intro t k
    refine k00 t ?_
    refine XS.iloadN X00.here hx rfl (hb hby at_0) rfl ?_
    show own_At p e below m s₁ 1 #[.val (.int p0), .unset, .unset, .unset, .unset, .unset, .unset] [(.int p0)] t
    refine X00.ldcI hx hown (mvT hZ (own_w hw 0 rfl)) rfl (hb hby at_1) ?_
    show own_At p e below m s₁ 3 #[.val (.int p0), .unset, .unset, .unset, .unset, .unset, .unset] [(.int (2147483647 : Int32)), (.int p0)] t
    refine XS.iand X00.here hx rfl (hb hby at_3) rfl ?_
    show own_At p e below m s₁ 4 #[.val (.int p0), .unset, .unset, .unset, .unset, .unset, .unset] [(.int (p0 &&& (2147483647 : Int32)))] t
    refine XS.iconst X00.here hx rfl (hb hby at_4) ?_
    show own_At p e below m s₁ 5 #[.val (.int p0), .unset, .unset, .unset, .unset, .unset, .unset] [(.int (3 : Int32)), (.int (p0 &&& (2147483647 : Int32)))] t
    refine iremM X00 hx rfl (hb hby at_5) rfl (by decide) ?_
    show own_At p e below m s₁ 6 #[.val (.int p0), .unset, .unset, .unset, .unset, .unset, .unset] [(.int ((p0 &&& (2147483647 : Int32)) % (3 : Int32)))] t
    refine XS.istoreN X00.here hx rfl (hb hby at_6) rfl (l' := #[.val (.int p0), .val (.int ((p0 &&& (2147483647 : Int32)) % (3 : Int32))), .unset, .unset, .unset, .unset, .unset]) rfl ?_
    show own_At p e below m s₁ 7 #[.val (.int p0), .val (.int ((p0 &&& (2147483647 : Int32)) % (3 : Int32))), .unset, .unset, .unset, .unset, .unset] [] t
    refine XS.iloadN X00.here hx rfl (hb hby at_7) rfl ?_
    show own_At p e below m s₁ 8 #[.val (.int p0), .val (.int ((p0 &&& (2147483647 : Int32)) % (3 : Int32))), .unset, .unset, .unset, .unset, .unset] [(.int ((p0 &&& (2147483647 : Int32)) % (3 : Int32)))] t
    exact k
  by_cases hc11 : ((p0 &&& (2147483647 : Int32)) % (3 : Int32)) = (0 : Int32)
  · obtain ⟨T12, h12, c12, X12, e12, E12, A12, st12⟩ := newP X00 hx hZ (own_w hw 1 rfl) e00 (g := (mkF m 13 #[.val (.int p0), .val (.int ((p0 &&& (2147483647 : Int32)) % (3 : Int32))), .unset, .unset, .unset, .unset, .unset] [(.int (6 : Int32))])) rfl (hb hby at_13) rfl (by decide) (cap := 6) (by decide) (by decide) (by decide) (by decide)
    obtain ⟨b12, g12⟩ : ∃ z, z = h0.size := ⟨_, rfl⟩
    rw [← g12] at A12 st12
    have O12 := O0.ext E12
    have g_b12 : n0 ≤ b12 := Nat.le_trans (Nat.le_of_eq O0.1.symm) (Nat.le_trans O0.2.1 (Nat.le_of_eq g12.symm))
    have s_b12 : h0.size ≤ b12 := Nat.le_trans K00.1 (Nat.le_of_eq g12.symm)
    have K12 := K00.ext E12
    have V12 : Arv Z h12 b12 c12 .char (6 : Int32) [(.int (0 : Int32)), (.int (0 : Int32)), (.int (0 : Int32)), (.int (0 : Int32)), (.int (0 : Int32)), (.int (0 : Int32))] (.int (0 : Int32)) := (Arv.new A12 (by decide)).pad (pad_rep [] (.int (0 : Int32)) 6)
    have lt_b12 := V12.lt
    obtain ⟨cl13, Ar13, q13, Sz13, Nn13, Hs13, Gf13⟩ := id V12
    have hin14 : ¬ ((0 : Int32) < 0 ∨ cl13.slots.size ≤ ((0 : Int32)).toNatClampNeg) := inb_of Sz13 ⟨by decide, by decide⟩
    obtain ⟨T15, h15, X15, e15, W15, st15⟩ := stC X12 hx hZ e12 Ar13 (j := (0 : Int32)) hin14 (g := (mkF m 19 #[.val (.int p0), .val (.int ((p0 &&& (2147483647 : Int32)) % (3 : Int32))), .unset, .unset, .unset, .unset, .unset] [(.int (100 : Int32)), (.int (0 : Int32)), (.ref b12), (.ref b12)])) rfl rfl (hb hby at_19)
    have V15 : Arv Z h15 b12 c12 .char (6 : Int32) [(.int (100 : Int32)), (.int (0 : Int32)), (.int (0 : Int32)), (.int (0 : Int32)), (.int (0 : Int32)), (.int (0 : Int32))] (.int (0 : Int32)) := Arv.set Ar13 q13 Sz13 Nn13 Hs13 Gf13 (fits_nar_char _) W15 0 rfl (Nat.le_of_ble_eq_true rfl)
    have N15 := Fr.snoc X15 N00 g_b12
    have O15 := O12.wr W15 g_b12
    have K15 := K12.wr W15 (Or.inr s_b12)
    obtain ⟨cl16, Ar16, q16, Sz16, Nn16, Hs16, Gf16⟩ := id V15
    have hin17 : ¬ ((1 : Int32) < 0 ∨ cl16.slots.size ≤ ((1 : Int32)).toNatClampNeg) := inb_of Sz16 ⟨by decide, by decide⟩
    obtain ⟨T18, h18, X18, e18, W18, st18⟩ := stC X15 hx hZ e15 Ar16 (j := (1 : Int32)) hin17 (g := (mkF m 24 #[.val (.int p0), .val (.int ((p0 &&& (2147483647 : Int32)) % (3 : Int32))), .unset, .unset, .unset, .unset, .unset] [(.int (111 : Int32)), (.int (1 : Int32)), (.ref b12), (.ref b12)])) rfl rfl (hb hby at_24)
    have V18 : Arv Z h18 b12 c12 .char (6 : Int32) [(.int (100 : Int32)), (.int (111 : Int32)), (.int (0 : Int32)), (.int (0 : Int32)), (.int (0 : Int32)), (.int (0 : Int32))] (.int (0 : Int32)) := Arv.set Ar16 q16 Sz16 Nn16 Hs16 Gf16 (fits_nar_char _) W18 1 rfl (Nat.le_of_ble_eq_true rfl)
    have N18 := Fr.snoc X18 N15 g_b12
    have O18 := O15.wr W18 g_b12
    have K18 := K15.wr W18 (Or.inr s_b12)
    obtain ⟨cl19, Ar19, q19, Sz19, Nn19, Hs19, Gf19⟩ := id V18
    have hin20 : ¬ ((2 : Int32) < 0 ∨ cl19.slots.size ≤ ((2 : Int32)).toNatClampNeg) := inb_of Sz19 ⟨by decide, by decide⟩
    obtain ⟨T21, h21, X21, e21, W21, st21⟩ := stC X18 hx hZ e18 Ar19 (j := (2 : Int32)) hin20 (g := (mkF m 29 #[.val (.int p0), .val (.int ((p0 &&& (2147483647 : Int32)) % (3 : Int32))), .unset, .unset, .unset, .unset, .unset] [(.int (109 : Int32)), (.int (2 : Int32)), (.ref b12), (.ref b12)])) rfl rfl (hb hby at_29)
    have V21 : Arv Z h21 b12 c12 .char (6 : Int32) [(.int (100 : Int32)), (.int (111 : Int32)), (.int (109 : Int32)), (.int (0 : Int32)), (.int (0 : Int32)), (.int (0 : Int32))] (.int (0 : Int32)) := Arv.set Ar19 q19 Sz19 Nn19 Hs19 Gf19 (fits_nar_char _) W21 2 rfl (Nat.le_of_ble_eq_true rfl)
    have N21 := Fr.snoc X21 N18 g_b12
    have O21 := O18.wr W21 g_b12
    have K21 := K18.wr W21 (Or.inr s_b12)
    obtain ⟨cl22, Ar22, q22, Sz22, Nn22, Hs22, Gf22⟩ := id V21
    have hin23 : ¬ ((3 : Int32) < 0 ∨ cl22.slots.size ≤ ((3 : Int32)).toNatClampNeg) := inb_of Sz22 ⟨by decide, by decide⟩
    obtain ⟨T24, h24, X24, e24, W24, st24⟩ := stC X21 hx hZ e21 Ar22 (j := (3 : Int32)) hin23 (g := (mkF m 34 #[.val (.int p0), .val (.int ((p0 &&& (2147483647 : Int32)) % (3 : Int32))), .unset, .unset, .unset, .unset, .unset] [(.int (97 : Int32)), (.int (3 : Int32)), (.ref b12), (.ref b12)])) rfl rfl (hb hby at_34)
    have V24 : Arv Z h24 b12 c12 .char (6 : Int32) [(.int (100 : Int32)), (.int (111 : Int32)), (.int (109 : Int32)), (.int (97 : Int32)), (.int (0 : Int32)), (.int (0 : Int32))] (.int (0 : Int32)) := Arv.set Ar22 q22 Sz22 Nn22 Hs22 Gf22 (fits_nar_char _) W24 3 rfl (Nat.le_of_ble_eq_true rfl)
    have N24 := Fr.snoc X24 N21 g_b12
    have O24 := O21.wr W24 g_b12
    have K24 := K21.wr W24 (Or.inr s_b12)
    obtain ⟨cl25, Ar25, q25, Sz25, Nn25, Hs25, Gf25⟩ := id V24
    have hin26 : ¬ ((4 : Int32) < 0 ∨ cl25.slots.size ≤ ((4 : Int32)).toNatClampNeg) := inb_of Sz25 ⟨by decide, by decide⟩
    obtain ⟨T27, h27, X27, e27, W27, st27⟩ := stC X24 hx hZ e24 Ar25 (j := (4 : Int32)) hin26 (g := (mkF m 39 #[.val (.int p0), .val (.int ((p0 &&& (2147483647 : Int32)) % (3 : Int32))), .unset, .unset, .unset, .unset, .unset] [(.int (105 : Int32)), (.int (4 : Int32)), (.ref b12), (.ref b12)])) rfl rfl (hb hby at_39)
    have V27 : Arv Z h27 b12 c12 .char (6 : Int32) [(.int (100 : Int32)), (.int (111 : Int32)), (.int (109 : Int32)), (.int (97 : Int32)), (.int (105 : Int32)), (.int (0 : Int32))] (.int (0 : Int32)) := Arv.set Ar25 q25 Sz25 Nn25 Hs25 Gf25 (fits_nar_char _) W27 4 rfl (Nat.le_of_ble_eq_true rfl)
    have N27 := Fr.snoc X27 N24 g_b12
    have O27 := O24.wr W27 g_b12
    have K27 := K24.wr W27 (Or.inr s_b12)
    obtain ⟨cl28, Ar28, q28, Sz28, Nn28, Hs28, Gf28⟩ := id V27
    have hin29 : ¬ ((5 : Int32) < 0 ∨ cl28.slots.size ≤ ((5 : Int32)).toNatClampNeg) := inb_of Sz28 ⟨by decide, by decide⟩
    obtain ⟨T30, h30, X30, e30, W30, st30⟩ := stC X27 hx hZ e27 Ar28 (j := (5 : Int32)) hin29 (g := (mkF m 44 #[.val (.int p0), .val (.int ((p0 &&& (2147483647 : Int32)) % (3 : Int32))), .unset, .unset, .unset, .unset, .unset] [(.int (110 : Int32)), (.int (5 : Int32)), (.ref b12), (.ref b12)])) rfl rfl (hb hby at_44)
    have V30 : Arv Z h30 b12 c12 .char (6 : Int32) [(.int (100 : Int32)), (.int (111 : Int32)), (.int (109 : Int32)), (.int (97 : Int32)), (.int (105 : Int32)), (.int (110 : Int32))] (.int (0 : Int32)) := Arv.set Ar28 q28 Sz28 Nn28 Hs28 Gf28 (fits_nar_char _) W30 5 rfl (Nat.le_of_ble_eq_true rfl)
    have N30 := Fr.snoc X30 N27 g_b12
    have O30 := O27.wr W30 g_b12
    have K30 := K27.wr W30 (Or.inr s_b12)
    obtain ⟨T31, X31, e31, st31⟩ := getS2 X30 hx hZ hown (host := "") (Or.inl (own_w hw 2 rfl)) Via.refl e30 (S_DOMAIN.ext O30.2) (g := (mkF m 46 #[.val (.int p0), .val (.int ((p0 &&& (2147483647 : Int32)) % (3 : Int32))), .val (.ref b12), .unset, .unset, .unset, .unset] [])) rfl (hb hby at_46)
    obtain ⟨T32, h32, X32, e32, E32, A32, D32, -, st32⟩ := newO X31 hx hZ hown (own_w hw 5 rfl) (own_w hw 6 rfl) (own_w hw 7 rfl) e31 (g := (mkF m 139 #[.val (.int p0), .val (.int ((p0 &&& (2147483647 : Int32)) % (3 : Int32))), .val (.ref b12), .val (.ref a_DOMAIN), .unset, .unset, .unset] [])) rfl (hb hby at_139) (by decide) (by decide)
    obtain ⟨b32, g32⟩ : ∃ z, z = h30.size := ⟨_, rfl⟩
    rw [← g32] at A32 D32 st32
    have O32 := O30.ext E32
    have g_b32 : n0 ≤ b32 := Nat.le_trans (Nat.le_of_eq O30.1.symm) (Nat.le_trans O30.2.1 (Nat.le_of_eq g32.symm))
    have s_b32 : h0.size ≤ b32 := Nat.le_trans K30.1 (Nat.le_of_eq g32.symm)
    have K32 := K30.ext E32
    have lt_b32 := A32.lt
    have F32_coder : Fld Z h32 b32 "java/lang/String" "coder" "B" (.int (0 : Int32)) := D32 (Or.inr (own_w hw 31 rfl)) (ty := .byte) (by decide)
    have F32_value : Fld Z h32 b32 "java/lang/String" "value" "[B" .null := D32 (Or.inr (own_w hw 33 rfl)) (ty := (.array .byte)) (by decide)
    have f33 := (V30.ext E32)
    have hp34 : ∀ c ∈ ([(100 : Int32), (111 : Int32), (109 : Int32), (97 : Int32), (105 : Int32), (110 : Int32)] : List Int32), ¬ c < 0 ∧ ¬ (255 : Int32) < c := own_bd_DOMAIN
    obtain ⟨_, _, ⟨T35, L35, k35, n35⟩, -, X35, ⟨Lc35, hQ35, l35, y35, z35⟩, st35⟩ := X32.specialBack hx (y := own_m3) rfl hown (mvT hZ (own_w hw 8 rfl)) (mvT hZ (own_w hw 9 rfl)) (mvT hZ (own_w hw 10 rfl)) (by decide) (StrChars.Road.backV (W := 1) hZ (own_hws hw) (kI := 4) (own_w hw 6 rfl) (cs := ([(100 : Int32), (111 : Int32), (109 : Int32), (97 : Int32), (105 : Int32), (110 : Int32)] : List Int32)) (bs := (([(100 : Int32), (111 : Int32), (109 : Int32), (97 : Int32), (105 : Int32), (110 : Int32)] : List Int32)).map (fun c => c.toInt8.toInt32)) (n := 6) g_b32 (Nat.le_trans (Nat.le_of_eq O32.1.symm) O32.2.1) A32 F32_value F32_coder f33 (S_COMPACT_STRINGS.ext O32.2) nz_COMPACT_STRINGS rfl rfl (by decide) (by decide) hp34 rfl (by decide) (by decide)) (g := (mkF m 144 #[.val (.int p0), .val (.int ((p0 &&& (2147483647 : Int32)) % (3 : Int32))), .val (.ref b12), .val (.ref a_DOMAIN), .unset, .unset, .unset] [(.ref b12), (.ref b32), (.ref b32)])) rfl (by rw [hml]; rfl) (Steps.refl _) (a := b32) (argsL := [(.ref b12)]) (rest := [(.ref b32)]) (lenOf pd___C_V rfl) rfl (by show 2 * 0 + _ ≤ _; exact Nat.le_of_eq rfl) (hb hby at_144) (fun _ _ => ⟨rfl, e32, (by decide : 2 + 1 ≤ _), (by decide : 10 + 6 ≤ _)⟩)
    dsimp only [Pt.U, Pt.locs, Pt.cells, Pt.slots] at X35 l35 y35 z35 st35 hQ35
    subst l35 y35 z35
    obtain ⟨rfl, N35q, Kc35, Ex35, Fc35, t35, kb35, g_t35, gs_t35, nx35, Fv35, Av35⟩ := hQ35
    have N35 := Fr.app N30 N35q
    have O35 := O32.keep Kc35 (allS g_b32 all0)
    have K35 := K32.trans Kc35 (allS (Or.inr s_b32) all0)
    have s_t35 := Nat.le_trans K32.1 gs_t35
    have lt_t35 := Av35.lt
    obtain ⟨_, _, ⟨T36, L36, k36, n36⟩, -, X36, ⟨Lc36, hQ36, l36, y36, z36⟩, st36⟩ := Jvm.LawKit.callS X35 hx (y := own_m2) hown (mvT hZ (own_w hw 34 rfl)) (mvT hZ (own_w hw 35 rfl)) (mvT hZ (own_w hw 3 rfl)) (mvT hZ (own_w hw 36 rfl)) (by decide) (backOf (W := 0) (rm_fw_DOMAIN l Z a0 hw [] b32 t35 kb35 _ _ _ _ _ _ _ _ _ _ _ _ T35.heap n0 O35 hE Ex35 Fc35 Fv35 Av35 ) hZ (own_w hw 36 rfl) (own_w hw 3 rfl) (by decide) (by decide)) (g := (mkF m 151 #[.val (.int p0), .val (.int ((p0 &&& (2147483647 : Int32)) % (3 : Int32))), .val (.ref b12), .val (.ref a_DOMAIN), .val (.ref b32), .unset, .unset] [(.ref b32)])) rfl (by rw [hml]; rfl) (argsL := [(.ref b32)]) (rest := []) (lenOf pd__Ljava_lang_String__Lcom_example_scoped_authority_scopedauthority_Kind_ rfl) rfl (by show 2 * 0 + _ ≤ _; exact Nat.le_of_eq rfl) (hb hby at_151) (fun _ _ => ⟨rfl, rfl, (by decide : 3 + 1 ≤ _), (by decide : 16 + 3 ≤ _)⟩)
    dsimp only [Pt.U, Pt.locs, Pt.cells, Pt.slots] at X36 l36 y36 z36 st36 hQ36
    subst l36 y36 z36
    obtain ⟨rfl, N36q, O36, Kc36⟩ := hQ36
    have N36 := Fr.app N35 N36q
    have K36 := K35.trans Kc36 (fun x hx => nomatch hx)
    obtain ⟨cq37, kq37, q37a, q37b, q37c⟩ := isOf hZ rfl (E_DOMAIN.ext O36.2)
    obtain ⟨_, _, ⟨T37, L37, k37, n37⟩, -, X37, ⟨Lc37, hQ37, l37, y37, z37⟩, st37⟩ := X36.virtualBack hx (y := own_m4) (z := own_m4) hown (mvT hZ (own_w hw 66 rfl)) (mvT hZ (own_w hw 67 rfl)) (notFace_of_selects (args := #[]) (mvT hZ (own_w hw 69 rfl))) (mvT hZ (own_w hw 69 rfl)) (mvT hZ (own_w hw 68 rfl)) (by decide) (backOf (W := 0) (rm_f1 l Z a0 hw []  _ _ _ _ _ _ _ _ _ _ _ _ T36.heap n0 O36 hE) hZ (own_w hw 70 rfl) (own_w hw 3 rfl) (by decide) (by decide)) q37a q37c (g := (mkF m 157 #[.val (.int p0), .val (.int ((p0 &&& (2147483647 : Int32)) % (3 : Int32))), .val (.ref b12), .val (.ref a_DOMAIN), .val (.ref b32), .val (.ref a_DOMAIN), .unset] [(.ref a_DOMAIN)])) rfl (by rw [hml]; rfl) (Steps.refl _) (argsL := []) (rest := []) (lenOf pd___Ljava_lang_String_ rfl) rfl (by show 2 * 0 + _ ≤ _; exact Nat.le_of_eq rfl) (hb hby at_157) (fun _ _ => ⟨rfl, rfl, (by decide : 4 + 0 ≤ _), (by decide : 19 + 0 ≤ _)⟩)
    dsimp only [Pt.U, Pt.locs, Pt.cells, Pt.slots] at X37 l37 y37 z37 st37 hQ37
    subst l37 y37 z37
    obtain ⟨rfl, N37q, hp37⟩ := hQ37
    have N37 := Fr.app N36 N37q
    obtain ⟨_, _, ⟨T38, L38, k38, n38⟩, -, X38, ⟨Lc38, hQ38, l38, y38, z38⟩, st38⟩ := Jvm.LawKit.callS X37 hx (y := own_m2) hown (mvT hZ (own_w hw 34 rfl)) (mvT hZ (own_w hw 35 rfl)) (mvT hZ (own_w hw 3 rfl)) (mvT hZ (own_w hw 36 rfl)) (by decide) (backOf (W := 0) (rm_fw_DOMAIN l Z a0 hw [] a_DOMAIN_word a_DOMAIN_word_value kw_DOMAIN _ _ _ _ _ _ _ _ _ _ _ _ T36.heap n0 O36 hE (E_DOMAIN_word.ext O36.2) (F_DOMAIN_word_coder.ext O36.2) (F_DOMAIN_word_value.ext O36.2) (Aw_DOMAIN.ext O36.2) ) hZ (own_w hw 36 rfl) (own_w hw 3 rfl) (by decide) (by decide)) (g := (mkF m 160 #[.val (.int p0), .val (.int ((p0 &&& (2147483647 : Int32)) % (3 : Int32))), .val (.ref b12), .val (.ref a_DOMAIN), .val (.ref b32), .val (.ref a_DOMAIN), .unset] [(.ref a_DOMAIN_word)])) rfl (by rw [hml]; rfl) (argsL := [(.ref a_DOMAIN_word)]) (rest := []) (lenOf pd__Ljava_lang_String__Lcom_example_scoped_authority_scopedauthority_Kind_ rfl) rfl (by show 2 * 0 + _ ≤ _; exact Nat.le_of_eq rfl) (hb hby at_160) (fun _ _ => ⟨rfl, hp37, (by decide : 4 + 1 ≤ _), (by decide : 19 + 3 ≤ _)⟩)
    dsimp only [Pt.U, Pt.locs, Pt.cells, Pt.slots] at X38 l38 y38 z38 st38 hQ38
    subst l38 y38 z38
    obtain ⟨rfl, N38q, O38, Kc38⟩ := hQ38
    have N38 := Fr.app N37 N38q
    have K38 := K36.trans Kc38 (fun x hx => nomatch hx)
    have k39 : ∀ t, own_At p e below m T38 182 #[.val (.int p0), .val (.int ((p0 &&& (2147483647 : Int32)) % (3 : Int32))), .val (.ref b12), .val (.ref a_DOMAIN), .val (.ref b32), .val (.ref a_DOMAIN), .val (.ref a_DOMAIN)] [(.int (1 : Int32))] t → own_En p e below m s₁ #[(.int p0)] maxLocals t := by
      intro t k
      refine k10 t ?_
      refine XS.ifNo X00.here hx rfl (hb hby at_8) rfl ((if0 _ _).trans (teq hc11).2) ?_
      show own_At p e below m s₁ 11 #[.val (.int p0), .val (.int ((p0 &&& (2147483647 : Int32)) % (3 : Int32))), .unset, .unset, .unset, .unset, .unset] [] t
      refine XS.bipush X00.here hx rfl (hb hby at_11) ?_
      show own_At p e below m s₁ 13 #[.val (.int p0), .val (.int ((p0 &&& (2147483647 : Int32)) % (3 : Int32))), .unset, .unset, .unset, .unset, .unset] [(.int (6 : Int32))] t
      refine st12 _ ?_
      show own_At p e below m T12 15 #[.val (.int p0), .val (.int ((p0 &&& (2147483647 : Int32)) % (3 : Int32))), .unset, .unset, .unset, .unset, .unset] [(.ref b12)] t
      refine XS.dup X12.here hx rfl (hb hby at_15) rfl rfl ?_
      show own_At p e below m T12 16 #[.val (.int p0), .val (.int ((p0 &&& (2147483647 : Int32)) % (3 : Int32))), .unset, .unset, .unset, .unset, .unset] [(.ref b12), (.ref b12)] t
      refine XS.iconst X12.here hx rfl (hb hby at_16) ?_
      show own_At p e below m T12 17 #[.val (.int p0), .val (.int ((p0 &&& (2147483647 : Int32)) % (3 : Int32))), .unset, .unset, .unset, .unset, .unset] [(.int (0 : Int32)), (.ref b12), (.ref b12)] t
      refine XS.bipush X12.here hx rfl (hb hby at_17) ?_
      show own_At p e below m T12 19 #[.val (.int p0), .val (.int ((p0 &&& (2147483647 : Int32)) % (3 : Int32))), .unset, .unset, .unset, .unset, .unset] [(.int (100 : Int32)), (.int (0 : Int32)), (.ref b12), (.ref b12)] t
      refine st15 _ ?_
      show own_At p e below m T15 20 #[.val (.int p0), .val (.int ((p0 &&& (2147483647 : Int32)) % (3 : Int32))), .unset, .unset, .unset, .unset, .unset] [(.ref b12)] t
      refine XS.dup X15.here hx rfl (hb hby at_20) rfl rfl ?_
      show own_At p e below m T15 21 #[.val (.int p0), .val (.int ((p0 &&& (2147483647 : Int32)) % (3 : Int32))), .unset, .unset, .unset, .unset, .unset] [(.ref b12), (.ref b12)] t
      refine XS.iconst X15.here hx rfl (hb hby at_21) ?_
      show own_At p e below m T15 22 #[.val (.int p0), .val (.int ((p0 &&& (2147483647 : Int32)) % (3 : Int32))), .unset, .unset, .unset, .unset, .unset] [(.int (1 : Int32)), (.ref b12), (.ref b12)] t
      refine XS.bipush X15.here hx rfl (hb hby at_22) ?_
      show own_At p e below m T15 24 #[.val (.int p0), .val (.int ((p0 &&& (2147483647 : Int32)) % (3 : Int32))), .unset, .unset, .unset, .unset, .unset] [(.int (111 : Int32)), (.int (1 : Int32)), (.ref b12), (.ref b12)] t
      refine st18 _ ?_
      show own_At p e below m T18 25 #[.val (.int p0), .val (.int ((p0 &&& (2147483647 : Int32)) % (3 : Int32))), .unset, .unset, .unset, .unset, .unset] [(.ref b12)] t
      refine XS.dup X18.here hx rfl (hb hby at_25) rfl rfl ?_
      show own_At p e below m T18 26 #[.val (.int p0), .val (.int ((p0 &&& (2147483647 : Int32)) % (3 : Int32))), .unset, .unset, .unset, .unset, .unset] [(.ref b12), (.ref b12)] t
      refine XS.iconst X18.here hx rfl (hb hby at_26) ?_
      show own_At p e below m T18 27 #[.val (.int p0), .val (.int ((p0 &&& (2147483647 : Int32)) % (3 : Int32))), .unset, .unset, .unset, .unset, .unset] [(.int (2 : Int32)), (.ref b12), (.ref b12)] t
      refine XS.bipush X18.here hx rfl (hb hby at_27) ?_
      show own_At p e below m T18 29 #[.val (.int p0), .val (.int ((p0 &&& (2147483647 : Int32)) % (3 : Int32))), .unset, .unset, .unset, .unset, .unset] [(.int (109 : Int32)), (.int (2 : Int32)), (.ref b12), (.ref b12)] t
      refine st21 _ ?_
      show own_At p e below m T21 30 #[.val (.int p0), .val (.int ((p0 &&& (2147483647 : Int32)) % (3 : Int32))), .unset, .unset, .unset, .unset, .unset] [(.ref b12)] t
      refine XS.dup X21.here hx rfl (hb hby at_30) rfl rfl ?_
      show own_At p e below m T21 31 #[.val (.int p0), .val (.int ((p0 &&& (2147483647 : Int32)) % (3 : Int32))), .unset, .unset, .unset, .unset, .unset] [(.ref b12), (.ref b12)] t
      refine XS.iconst X21.here hx rfl (hb hby at_31) ?_
      show own_At p e below m T21 32 #[.val (.int p0), .val (.int ((p0 &&& (2147483647 : Int32)) % (3 : Int32))), .unset, .unset, .unset, .unset, .unset] [(.int (3 : Int32)), (.ref b12), (.ref b12)] t
      refine XS.bipush X21.here hx rfl (hb hby at_32) ?_
      show own_At p e below m T21 34 #[.val (.int p0), .val (.int ((p0 &&& (2147483647 : Int32)) % (3 : Int32))), .unset, .unset, .unset, .unset, .unset] [(.int (97 : Int32)), (.int (3 : Int32)), (.ref b12), (.ref b12)] t
      refine st24 _ ?_
      show own_At p e below m T24 35 #[.val (.int p0), .val (.int ((p0 &&& (2147483647 : Int32)) % (3 : Int32))), .unset, .unset, .unset, .unset, .unset] [(.ref b12)] t
      refine XS.dup X24.here hx rfl (hb hby at_35) rfl rfl ?_
      show own_At p e below m T24 36 #[.val (.int p0), .val (.int ((p0 &&& (2147483647 : Int32)) % (3 : Int32))), .unset, .unset, .unset, .unset, .unset] [(.ref b12), (.ref b12)] t
      refine XS.iconst X24.here hx rfl (hb hby at_36) ?_
      show own_At p e below m T24 37 #[.val (.int p0), .val (.int ((p0 &&& (2147483647 : Int32)) % (3 : Int32))), .unset, .unset, .unset, .unset, .unset] [(.int (4 : Int32)), (.ref b12), (.ref b12)] t
      refine XS.bipush X24.here hx rfl (hb hby at_37) ?_
      show own_At p e below m T24 39 #[.val (.int p0), .val (.int ((p0 &&& (2147483647 : Int32)) % (3 : Int32))), .unset, .unset, .unset, .unset, .unset] [(.int (105 : Int32)), (.int (4 : Int32)), (.ref b12), (.ref b12)] t
      refine st27 _ ?_
      show own_At p e below m T27 40 #[.val (.int p0), .val (.int ((p0 &&& (2147483647 : Int32)) % (3 : Int32))), .unset, .unset, .unset, .unset, .unset] [(.ref b12)] t
      refine XS.dup X27.here hx rfl (hb hby at_40) rfl rfl ?_
      show own_At p e below m T27 41 #[.val (.int p0), .val (.int ((p0 &&& (2147483647 : Int32)) % (3 : Int32))), .unset, .unset, .unset, .unset, .unset] [(.ref b12), (.ref b12)] t
      refine XS.iconst X27.here hx rfl (hb hby at_41) ?_
      show own_At p e below m T27 42 #[.val (.int p0), .val (.int ((p0 &&& (2147483647 : Int32)) % (3 : Int32))), .unset, .unset, .unset, .unset, .unset] [(.int (5 : Int32)), (.ref b12), (.ref b12)] t
      refine XS.bipush X27.here hx rfl (hb hby at_42) ?_
      show own_At p e below m T27 44 #[.val (.int p0), .val (.int ((p0 &&& (2147483647 : Int32)) % (3 : Int32))), .unset, .unset, .unset, .unset, .unset] [(.int (110 : Int32)), (.int (5 : Int32)), (.ref b12), (.ref b12)] t
      refine st30 _ ?_
      show own_At p e below m T30 45 #[.val (.int p0), .val (.int ((p0 &&& (2147483647 : Int32)) % (3 : Int32))), .unset, .unset, .unset, .unset, .unset] [(.ref b12)] t
      refine XS.astoreN X30.here hx rfl (hb hby at_45) rfl rfl (l' := #[.val (.int p0), .val (.int ((p0 &&& (2147483647 : Int32)) % (3 : Int32))), .val (.ref b12), .unset, .unset, .unset, .unset]) rfl ?_
      show own_At p e below m T30 46 #[.val (.int p0), .val (.int ((p0 &&& (2147483647 : Int32)) % (3 : Int32))), .val (.ref b12), .unset, .unset, .unset, .unset] [] t
      refine st31 _ ?_
      show own_At p e below m T31 49 #[.val (.int p0), .val (.int ((p0 &&& (2147483647 : Int32)) % (3 : Int32))), .val (.ref b12), .unset, .unset, .unset, .unset] [(.ref a_DOMAIN)] t
      refine XS.astoreN X31.here hx rfl (hb hby at_49) rfl rfl (l' := #[.val (.int p0), .val (.int ((p0 &&& (2147483647 : Int32)) % (3 : Int32))), .val (.ref b12), .val (.ref a_DOMAIN), .unset, .unset, .unset]) rfl ?_
      show own_At p e below m T31 50 #[.val (.int p0), .val (.int ((p0 &&& (2147483647 : Int32)) % (3 : Int32))), .val (.ref b12), .val (.ref a_DOMAIN), .unset, .unset, .unset] [] t
      refine XS.goto X31.here hx rfl (pc0 := 50) (pc' := 139) rfl (hb hby at_50) (by decide) (by decide) ?_
      show own_At p e below m T31 139 #[.val (.int p0), .val (.int ((p0 &&& (2147483647 : Int32)) % (3 : Int32))), .val (.ref b12), .val (.ref a_DOMAIN), .unset, .unset, .unset] [] t
      refine st32 _ ?_
      show own_At p e below m T32 142 #[.val (.int p0), .val (.int ((p0 &&& (2147483647 : Int32)) % (3 : Int32))), .val (.ref b12), .val (.ref a_DOMAIN), .unset, .unset, .unset] [(.ref b32)] t
      refine XS.dup X32.here hx rfl (hb hby at_142) rfl rfl ?_
      show own_At p e below m T32 143 #[.val (.int p0), .val (.int ((p0 &&& (2147483647 : Int32)) % (3 : Int32))), .val (.ref b12), .val (.ref a_DOMAIN), .unset, .unset, .unset] [(.ref b32), (.ref b32)] t
      refine XS.aloadN X32.here hx rfl (hb hby at_143) rfl rfl ?_
      show own_At p e below m T32 144 #[.val (.int p0), .val (.int ((p0 &&& (2147483647 : Int32)) % (3 : Int32))), .val (.ref b12), .val (.ref a_DOMAIN), .unset, .unset, .unset] [(.ref b12), (.ref b32), (.ref b32)] t
      refine st35.trans ?_
      show own_At p e below m T35 147 #[.val (.int p0), .val (.int ((p0 &&& (2147483647 : Int32)) % (3 : Int32))), .val (.ref b12), .val (.ref a_DOMAIN), .unset, .unset, .unset] [(.ref b32)] t
      refine XS.astore X35.here hx rfl (hb hby at_147) rfl rfl (l' := #[.val (.int p0), .val (.int ((p0 &&& (2147483647 : Int32)) % (3 : Int32))), .val (.ref b12), .val (.ref a_DOMAIN), .val (.ref b32), .unset, .unset]) rfl ?_
      show own_At p e below m T35 149 #[.val (.int p0), .val (.int ((p0 &&& (2147483647 : Int32)) % (3 : Int32))), .val (.ref b12), .val (.ref a_DOMAIN), .val (.ref b32), .unset, .unset] [] t
      refine XS.aload X35.here hx rfl (hb hby at_149) rfl rfl ?_
      show own_At p e below m T35 151 #[.val (.int p0), .val (.int ((p0 &&& (2147483647 : Int32)) % (3 : Int32))), .val (.ref b12), .val (.ref a_DOMAIN), .val (.ref b32), .unset, .unset] [(.ref b32)] t
      refine st36 _ ?_
      show own_At p e below m T36 154 #[.val (.int p0), .val (.int ((p0 &&& (2147483647 : Int32)) % (3 : Int32))), .val (.ref b12), .val (.ref a_DOMAIN), .val (.ref b32), .unset, .unset] [(.ref a_DOMAIN)] t
      refine XS.astore X36.here hx rfl (hb hby at_154) rfl rfl (l' := #[.val (.int p0), .val (.int ((p0 &&& (2147483647 : Int32)) % (3 : Int32))), .val (.ref b12), .val (.ref a_DOMAIN), .val (.ref b32), .val (.ref a_DOMAIN), .unset]) rfl ?_
      show own_At p e below m T36 156 #[.val (.int p0), .val (.int ((p0 &&& (2147483647 : Int32)) % (3 : Int32))), .val (.ref b12), .val (.ref a_DOMAIN), .val (.ref b32), .val (.ref a_DOMAIN), .unset] [] t
      refine XS.aloadN X36.here hx rfl (hb hby at_156) rfl rfl ?_
      show own_At p e below m T36 157 #[.val (.int p0), .val (.int ((p0 &&& (2147483647 : Int32)) % (3 : Int32))), .val (.ref b12), .val (.ref a_DOMAIN), .val (.ref b32), .val (.ref a_DOMAIN), .unset] [(.ref a_DOMAIN)] t
      refine st37.trans ?_
      show own_At p e below m T37 160 #[.val (.int p0), .val (.int ((p0 &&& (2147483647 : Int32)) % (3 : Int32))), .val (.ref b12), .val (.ref a_DOMAIN), .val (.ref b32), .val (.ref a_DOMAIN), .unset] [(.ref a_DOMAIN_word)] t
      refine st38 _ ?_
      show own_At p e below m T38 163 #[.val (.int p0), .val (.int ((p0 &&& (2147483647 : Int32)) % (3 : Int32))), .val (.ref b12), .val (.ref a_DOMAIN), .val (.ref b32), .val (.ref a_DOMAIN), .unset] [(.ref a_DOMAIN)] t
      refine XS.astore X38.here hx rfl (hb hby at_163) rfl rfl (l' := #[.val (.int p0), .val (.int ((p0 &&& (2147483647 : Int32)) % (3 : Int32))), .val (.ref b12), .val (.ref a_DOMAIN), .val (.ref b32), .val (.ref a_DOMAIN), .val (.ref a_DOMAIN)]) rfl ?_
      show own_At p e below m T38 165 #[.val (.int p0), .val (.int ((p0 &&& (2147483647 : Int32)) % (3 : Int32))), .val (.ref b12), .val (.ref a_DOMAIN), .val (.ref b32), .val (.ref a_DOMAIN), .val (.ref a_DOMAIN)] [] t
      refine XS.aload X38.here hx rfl (hb hby at_165) rfl rfl ?_
      show own_At p e below m T38 167 #[.val (.int p0), .val (.int ((p0 &&& (2147483647 : Int32)) % (3 : Int32))), .val (.ref b12), .val (.ref a_DOMAIN), .val (.ref b32), .val (.ref a_DOMAIN), .val (.ref a_DOMAIN)] [(.ref a_DOMAIN)] t
      refine XS.aloadN X38.here hx rfl (hb hby at_167) rfl rfl ?_
      show own_At p e below m T38 168 #[.val (.int p0), .val (.int ((p0 &&& (2147483647 : Int32)) % (3 : Int32))), .val (.ref b12), .val (.ref a_DOMAIN), .val (.ref b32), .val (.ref a_DOMAIN), .val (.ref a_DOMAIN)] [(.ref a_DOMAIN), (.ref a_DOMAIN)] t
      refine Jvm.RoadKit.acmp (g := (mkF m 168 #[.val (.int p0), .val (.int ((p0 &&& (2147483647 : Int32)) % (3 : Int32))), .val (.ref b12), .val (.ref a_DOMAIN), .val (.ref b32), .val (.ref a_DOMAIN), .val (.ref a_DOMAIN)] [(.ref a_DOMAIN), (.ref a_DOMAIN)])) X38 hx rfl rfl rfl (pc0 := 168) (pc' := 171) (same := true) rfl (hb hby at_168) rfl (decide_eq_true rfl) (by decide) (by decide) ?_
      show own_At p e below m T38 171 #[.val (.int p0), .val (.int ((p0 &&& (2147483647 : Int32)) % (3 : Int32))), .val (.ref b12), .val (.ref a_DOMAIN), .val (.ref b32), .val (.ref a_DOMAIN), .val (.ref a_DOMAIN)] [] t
      refine XS.aload X38.here hx rfl (hb hby at_171) rfl rfl ?_
      show own_At p e below m T38 173 #[.val (.int p0), .val (.int ((p0 &&& (2147483647 : Int32)) % (3 : Int32))), .val (.ref b12), .val (.ref a_DOMAIN), .val (.ref b32), .val (.ref a_DOMAIN), .val (.ref a_DOMAIN)] [(.ref a_DOMAIN)] t
      refine XS.aloadN X38.here hx rfl (hb hby at_173) rfl rfl ?_
      show own_At p e below m T38 174 #[.val (.int p0), .val (.int ((p0 &&& (2147483647 : Int32)) % (3 : Int32))), .val (.ref b12), .val (.ref a_DOMAIN), .val (.ref b32), .val (.ref a_DOMAIN), .val (.ref a_DOMAIN)] [(.ref a_DOMAIN), (.ref a_DOMAIN)] t
      refine Jvm.RoadKit.acmp (g := (mkF m 174 #[.val (.int p0), .val (.int ((p0 &&& (2147483647 : Int32)) % (3 : Int32))), .val (.ref b12), .val (.ref a_DOMAIN), .val (.ref b32), .val (.ref a_DOMAIN), .val (.ref a_DOMAIN)] [(.ref a_DOMAIN), (.ref a_DOMAIN)])) X38 hx rfl rfl rfl (pc0 := 174) (pc' := 177) (same := true) rfl (hb hby at_174) rfl (decide_eq_true rfl) (by decide) (by decide) ?_
      show own_At p e below m T38 177 #[.val (.int p0), .val (.int ((p0 &&& (2147483647 : Int32)) % (3 : Int32))), .val (.ref b12), .val (.ref a_DOMAIN), .val (.ref b32), .val (.ref a_DOMAIN), .val (.ref a_DOMAIN)] [] t
      refine XS.iconst X38.here hx rfl (hb hby at_177) ?_
      show own_At p e below m T38 178 #[.val (.int p0), .val (.int ((p0 &&& (2147483647 : Int32)) % (3 : Int32))), .val (.ref b12), .val (.ref a_DOMAIN), .val (.ref b32), .val (.ref a_DOMAIN), .val (.ref a_DOMAIN)] [(.int (1 : Int32))] t
      refine XS.goto X38.here hx rfl (pc0 := 178) (pc' := 182) rfl (hb hby at_178) (by decide) (by decide) ?_
      show own_At p e below m T38 182 #[.val (.int p0), .val (.int ((p0 &&& (2147483647 : Int32)) % (3 : Int32))), .val (.ref b12), .val (.ref a_DOMAIN), .val (.ref b32), .val (.ref a_DOMAIN), .val (.ref a_DOMAIN)] [(.int (1 : Int32))] t
      exact k
    obtain ⟨fs, hr, hrun, hended, hW, hsame⟩ := X38.leave (v := some (.int (1 : Int32))) (fun h => by rw [Bd.returns] at h; cases h)
    refine hNG ⟨_, _, k39 _ ?_, hrun, hended, _, _, rfl, ?_, ⟨_, rfl⟩, hW, hsame.mono (by decide) (by decide)⟩
    · exact retN X38 hx (t := .boolean) Bd.returns (by simp) (hb hby at_182) hr
    · show Q_law Z p0 a_DOMAIN a__VALUES a_PERSON a_OBJECT a_DOMAIN_word a_DOMAIN_word_value a_PERSON_word a_PERSON_word_value a_OBJECT_word a_OBJECT_word_value z_COMPACT_STRINGS r_SIOOBE_FORMATTER h0 n0 _ T38.heap _
      exact ⟨rfl, N38⟩
  · have k40 : ∀ t, own_At p e below m s₁ 55 #[.val (.int p0), .val (.int ((p0 &&& (2147483647 : Int32)) % (3 : Int32))), .unset, .unset, .unset, .unset, .unset] [(.int (1 : Int32)), (.int ((p0 &&& (2147483647 : Int32)) % (3 : Int32)))] t → own_En p e below m s₁ #[(.int p0)] maxLocals t := by
      intro t k
      refine k10 t ?_
      refine XS.ifYes X00.here hx rfl (pc0 := 8) (pc' := 53) rfl (hb hby at_8) rfl ((if0 _ _).trans (feq hc11).2) (by decide) (by decide) ?_
      show own_At p e below m s₁ 53 #[.val (.int p0), .val (.int ((p0 &&& (2147483647 : Int32)) % (3 : Int32))), .unset, .unset, .unset, .unset, .unset] [] t
      refine XS.iloadN X00.here hx rfl (hb hby at_53) rfl ?_
      show own_At p e below m s₁ 54 #[.val (.int p0), .val (.int ((p0 &&& (2147483647 : Int32)) % (3 : Int32))), .unset, .unset, .unset, .unset, .unset] [(.int ((p0 &&& (2147483647 : Int32)) % (3 : Int32)))] t
      refine XS.iconst X00.here hx rfl (hb hby at_54) ?_
      show own_At p e below m s₁ 55 #[.val (.int p0), .val (.int ((p0 &&& (2147483647 : Int32)) % (3 : Int32))), .unset, .unset, .unset, .unset, .unset] [(.int (1 : Int32)), (.int ((p0 &&& (2147483647 : Int32)) % (3 : Int32)))] t
      exact k
    by_cases hc41 : ((p0 &&& (2147483647 : Int32)) % (3 : Int32)) = (1 : Int32)
    · obtain ⟨T42, h42, c42, X42, e42, E42, A42, st42⟩ := newP X00 hx hZ (own_w hw 1 rfl) e00 (g := (mkF m 60 #[.val (.int p0), .val (.int ((p0 &&& (2147483647 : Int32)) % (3 : Int32))), .unset, .unset, .unset, .unset, .unset] [(.int (6 : Int32))])) rfl (hb hby at_60) rfl (by decide) (cap := 6) (by decide) (by decide) (by decide) (by decide)
      obtain ⟨b42, g42⟩ : ∃ z, z = h0.size := ⟨_, rfl⟩
      rw [← g42] at A42 st42
      have O42 := O0.ext E42
      have g_b42 : n0 ≤ b42 := Nat.le_trans (Nat.le_of_eq O0.1.symm) (Nat.le_trans O0.2.1 (Nat.le_of_eq g42.symm))
      have s_b42 : h0.size ≤ b42 := Nat.le_trans K00.1 (Nat.le_of_eq g42.symm)
      have K42 := K00.ext E42
      have V42 : Arv Z h42 b42 c42 .char (6 : Int32) [(.int (0 : Int32)), (.int (0 : Int32)), (.int (0 : Int32)), (.int (0 : Int32)), (.int (0 : Int32)), (.int (0 : Int32))] (.int (0 : Int32)) := (Arv.new A42 (by decide)).pad (pad_rep [] (.int (0 : Int32)) 6)
      have lt_b42 := V42.lt
      obtain ⟨cl43, Ar43, q43, Sz43, Nn43, Hs43, Gf43⟩ := id V42
      have hin44 : ¬ ((0 : Int32) < 0 ∨ cl43.slots.size ≤ ((0 : Int32)).toNatClampNeg) := inb_of Sz43 ⟨by decide, by decide⟩
      obtain ⟨T45, h45, X45, e45, W45, st45⟩ := stC X42 hx hZ e42 Ar43 (j := (0 : Int32)) hin44 (g := (mkF m 66 #[.val (.int p0), .val (.int ((p0 &&& (2147483647 : Int32)) % (3 : Int32))), .unset, .unset, .unset, .unset, .unset] [(.int (112 : Int32)), (.int (0 : Int32)), (.ref b42), (.ref b42)])) rfl rfl (hb hby at_66)
      have V45 : Arv Z h45 b42 c42 .char (6 : Int32) [(.int (112 : Int32)), (.int (0 : Int32)), (.int (0 : Int32)), (.int (0 : Int32)), (.int (0 : Int32)), (.int (0 : Int32))] (.int (0 : Int32)) := Arv.set Ar43 q43 Sz43 Nn43 Hs43 Gf43 (fits_nar_char _) W45 0 rfl (Nat.le_of_ble_eq_true rfl)
      have N45 := Fr.snoc X45 N00 g_b42
      have O45 := O42.wr W45 g_b42
      have K45 := K42.wr W45 (Or.inr s_b42)
      obtain ⟨cl46, Ar46, q46, Sz46, Nn46, Hs46, Gf46⟩ := id V45
      have hin47 : ¬ ((1 : Int32) < 0 ∨ cl46.slots.size ≤ ((1 : Int32)).toNatClampNeg) := inb_of Sz46 ⟨by decide, by decide⟩
      obtain ⟨T48, h48, X48, e48, W48, st48⟩ := stC X45 hx hZ e45 Ar46 (j := (1 : Int32)) hin47 (g := (mkF m 71 #[.val (.int p0), .val (.int ((p0 &&& (2147483647 : Int32)) % (3 : Int32))), .unset, .unset, .unset, .unset, .unset] [(.int (101 : Int32)), (.int (1 : Int32)), (.ref b42), (.ref b42)])) rfl rfl (hb hby at_71)
      have V48 : Arv Z h48 b42 c42 .char (6 : Int32) [(.int (112 : Int32)), (.int (101 : Int32)), (.int (0 : Int32)), (.int (0 : Int32)), (.int (0 : Int32)), (.int (0 : Int32))] (.int (0 : Int32)) := Arv.set Ar46 q46 Sz46 Nn46 Hs46 Gf46 (fits_nar_char _) W48 1 rfl (Nat.le_of_ble_eq_true rfl)
      have N48 := Fr.snoc X48 N45 g_b42
      have O48 := O45.wr W48 g_b42
      have K48 := K45.wr W48 (Or.inr s_b42)
      obtain ⟨cl49, Ar49, q49, Sz49, Nn49, Hs49, Gf49⟩ := id V48
      have hin50 : ¬ ((2 : Int32) < 0 ∨ cl49.slots.size ≤ ((2 : Int32)).toNatClampNeg) := inb_of Sz49 ⟨by decide, by decide⟩
      obtain ⟨T51, h51, X51, e51, W51, st51⟩ := stC X48 hx hZ e48 Ar49 (j := (2 : Int32)) hin50 (g := (mkF m 76 #[.val (.int p0), .val (.int ((p0 &&& (2147483647 : Int32)) % (3 : Int32))), .unset, .unset, .unset, .unset, .unset] [(.int (114 : Int32)), (.int (2 : Int32)), (.ref b42), (.ref b42)])) rfl rfl (hb hby at_76)
      have V51 : Arv Z h51 b42 c42 .char (6 : Int32) [(.int (112 : Int32)), (.int (101 : Int32)), (.int (114 : Int32)), (.int (0 : Int32)), (.int (0 : Int32)), (.int (0 : Int32))] (.int (0 : Int32)) := Arv.set Ar49 q49 Sz49 Nn49 Hs49 Gf49 (fits_nar_char _) W51 2 rfl (Nat.le_of_ble_eq_true rfl)
      have N51 := Fr.snoc X51 N48 g_b42
      have O51 := O48.wr W51 g_b42
      have K51 := K48.wr W51 (Or.inr s_b42)
      obtain ⟨cl52, Ar52, q52, Sz52, Nn52, Hs52, Gf52⟩ := id V51
      have hin53 : ¬ ((3 : Int32) < 0 ∨ cl52.slots.size ≤ ((3 : Int32)).toNatClampNeg) := inb_of Sz52 ⟨by decide, by decide⟩
      obtain ⟨T54, h54, X54, e54, W54, st54⟩ := stC X51 hx hZ e51 Ar52 (j := (3 : Int32)) hin53 (g := (mkF m 81 #[.val (.int p0), .val (.int ((p0 &&& (2147483647 : Int32)) % (3 : Int32))), .unset, .unset, .unset, .unset, .unset] [(.int (115 : Int32)), (.int (3 : Int32)), (.ref b42), (.ref b42)])) rfl rfl (hb hby at_81)
      have V54 : Arv Z h54 b42 c42 .char (6 : Int32) [(.int (112 : Int32)), (.int (101 : Int32)), (.int (114 : Int32)), (.int (115 : Int32)), (.int (0 : Int32)), (.int (0 : Int32))] (.int (0 : Int32)) := Arv.set Ar52 q52 Sz52 Nn52 Hs52 Gf52 (fits_nar_char _) W54 3 rfl (Nat.le_of_ble_eq_true rfl)
      have N54 := Fr.snoc X54 N51 g_b42
      have O54 := O51.wr W54 g_b42
      have K54 := K51.wr W54 (Or.inr s_b42)
      obtain ⟨cl55, Ar55, q55, Sz55, Nn55, Hs55, Gf55⟩ := id V54
      have hin56 : ¬ ((4 : Int32) < 0 ∨ cl55.slots.size ≤ ((4 : Int32)).toNatClampNeg) := inb_of Sz55 ⟨by decide, by decide⟩
      obtain ⟨T57, h57, X57, e57, W57, st57⟩ := stC X54 hx hZ e54 Ar55 (j := (4 : Int32)) hin56 (g := (mkF m 86 #[.val (.int p0), .val (.int ((p0 &&& (2147483647 : Int32)) % (3 : Int32))), .unset, .unset, .unset, .unset, .unset] [(.int (111 : Int32)), (.int (4 : Int32)), (.ref b42), (.ref b42)])) rfl rfl (hb hby at_86)
      have V57 : Arv Z h57 b42 c42 .char (6 : Int32) [(.int (112 : Int32)), (.int (101 : Int32)), (.int (114 : Int32)), (.int (115 : Int32)), (.int (111 : Int32)), (.int (0 : Int32))] (.int (0 : Int32)) := Arv.set Ar55 q55 Sz55 Nn55 Hs55 Gf55 (fits_nar_char _) W57 4 rfl (Nat.le_of_ble_eq_true rfl)
      have N57 := Fr.snoc X57 N54 g_b42
      have O57 := O54.wr W57 g_b42
      have K57 := K54.wr W57 (Or.inr s_b42)
      obtain ⟨cl58, Ar58, q58, Sz58, Nn58, Hs58, Gf58⟩ := id V57
      have hin59 : ¬ ((5 : Int32) < 0 ∨ cl58.slots.size ≤ ((5 : Int32)).toNatClampNeg) := inb_of Sz58 ⟨by decide, by decide⟩
      obtain ⟨T60, h60, X60, e60, W60, st60⟩ := stC X57 hx hZ e57 Ar58 (j := (5 : Int32)) hin59 (g := (mkF m 91 #[.val (.int p0), .val (.int ((p0 &&& (2147483647 : Int32)) % (3 : Int32))), .unset, .unset, .unset, .unset, .unset] [(.int (110 : Int32)), (.int (5 : Int32)), (.ref b42), (.ref b42)])) rfl rfl (hb hby at_91)
      have V60 : Arv Z h60 b42 c42 .char (6 : Int32) [(.int (112 : Int32)), (.int (101 : Int32)), (.int (114 : Int32)), (.int (115 : Int32)), (.int (111 : Int32)), (.int (110 : Int32))] (.int (0 : Int32)) := Arv.set Ar58 q58 Sz58 Nn58 Hs58 Gf58 (fits_nar_char _) W60 5 rfl (Nat.le_of_ble_eq_true rfl)
      have N60 := Fr.snoc X60 N57 g_b42
      have O60 := O57.wr W60 g_b42
      have K60 := K57.wr W60 (Or.inr s_b42)
      obtain ⟨T61, X61, e61, st61⟩ := getS2 X60 hx hZ hown (host := "") (Or.inl (own_w hw 72 rfl)) Via.refl e60 (S_PERSON.ext O60.2) (g := (mkF m 93 #[.val (.int p0), .val (.int ((p0 &&& (2147483647 : Int32)) % (3 : Int32))), .val (.ref b42), .unset, .unset, .unset, .unset] [])) rfl (hb hby at_93)
      obtain ⟨T62, h62, X62, e62, E62, A62, D62, -, st62⟩ := newO X61 hx hZ hown (own_w hw 5 rfl) (own_w hw 6 rfl) (own_w hw 7 rfl) e61 (g := (mkF m 139 #[.val (.int p0), .val (.int ((p0 &&& (2147483647 : Int32)) % (3 : Int32))), .val (.ref b42), .val (.ref a_PERSON), .unset, .unset, .unset] [])) rfl (hb hby at_139) (by decide) (by decide)
      obtain ⟨b62, g62⟩ : ∃ z, z = h60.size := ⟨_, rfl⟩
      rw [← g62] at A62 D62 st62
      have O62 := O60.ext E62
      have g_b62 : n0 ≤ b62 := Nat.le_trans (Nat.le_of_eq O60.1.symm) (Nat.le_trans O60.2.1 (Nat.le_of_eq g62.symm))
      have s_b62 : h0.size ≤ b62 := Nat.le_trans K60.1 (Nat.le_of_eq g62.symm)
      have K62 := K60.ext E62
      have lt_b62 := A62.lt
      have F62_coder : Fld Z h62 b62 "java/lang/String" "coder" "B" (.int (0 : Int32)) := D62 (Or.inr (own_w hw 31 rfl)) (ty := .byte) (by decide)
      have F62_value : Fld Z h62 b62 "java/lang/String" "value" "[B" .null := D62 (Or.inr (own_w hw 33 rfl)) (ty := (.array .byte)) (by decide)
      have f63 := (V60.ext E62)
      have hp64 : ∀ c ∈ ([(112 : Int32), (101 : Int32), (114 : Int32), (115 : Int32), (111 : Int32), (110 : Int32)] : List Int32), ¬ c < 0 ∧ ¬ (255 : Int32) < c := own_bd_PERSON
      obtain ⟨_, _, ⟨T65, L65, k65, n65⟩, -, X65, ⟨Lc65, hQ65, l65, y65, z65⟩, st65⟩ := X62.specialBack hx (y := own_m3) rfl hown (mvT hZ (own_w hw 8 rfl)) (mvT hZ (own_w hw 9 rfl)) (mvT hZ (own_w hw 10 rfl)) (by decide) (StrChars.Road.backV (W := 1) hZ (own_hws hw) (kI := 4) (own_w hw 6 rfl) (cs := ([(112 : Int32), (101 : Int32), (114 : Int32), (115 : Int32), (111 : Int32), (110 : Int32)] : List Int32)) (bs := (([(112 : Int32), (101 : Int32), (114 : Int32), (115 : Int32), (111 : Int32), (110 : Int32)] : List Int32)).map (fun c => c.toInt8.toInt32)) (n := 6) g_b62 (Nat.le_trans (Nat.le_of_eq O62.1.symm) O62.2.1) A62 F62_value F62_coder f63 (S_COMPACT_STRINGS.ext O62.2) nz_COMPACT_STRINGS rfl rfl (by decide) (by decide) hp64 rfl (by decide) (by decide)) (g := (mkF m 144 #[.val (.int p0), .val (.int ((p0 &&& (2147483647 : Int32)) % (3 : Int32))), .val (.ref b42), .val (.ref a_PERSON), .unset, .unset, .unset] [(.ref b42), (.ref b62), (.ref b62)])) rfl (by rw [hml]; rfl) (Steps.refl _) (a := b62) (argsL := [(.ref b42)]) (rest := [(.ref b62)]) (lenOf pd___C_V rfl) rfl (by show 2 * 0 + _ ≤ _; exact Nat.le_of_eq rfl) (hb hby at_144) (fun _ _ => ⟨rfl, e62, (by decide : 2 + 1 ≤ _), (by decide : 10 + 6 ≤ _)⟩)
      dsimp only [Pt.U, Pt.locs, Pt.cells, Pt.slots] at X65 l65 y65 z65 st65 hQ65
      subst l65 y65 z65
      obtain ⟨rfl, N65q, Kc65, Ex65, Fc65, t65, kb65, g_t65, gs_t65, nx65, Fv65, Av65⟩ := hQ65
      have N65 := Fr.app N60 N65q
      have O65 := O62.keep Kc65 (allS g_b62 all0)
      have K65 := K62.trans Kc65 (allS (Or.inr s_b62) all0)
      have s_t65 := Nat.le_trans K62.1 gs_t65
      have lt_t65 := Av65.lt
      obtain ⟨_, _, ⟨T66, L66, k66, n66⟩, -, X66, ⟨Lc66, hQ66, l66, y66, z66⟩, st66⟩ := Jvm.LawKit.callS X65 hx (y := own_m2) hown (mvT hZ (own_w hw 34 rfl)) (mvT hZ (own_w hw 35 rfl)) (mvT hZ (own_w hw 3 rfl)) (mvT hZ (own_w hw 36 rfl)) (by decide) (backOf (W := 0) (rm_fw_PERSON l Z a0 hw [] b62 t65 kb65 _ _ _ _ _ _ _ _ _ _ _ _ T65.heap n0 O65 hE Ex65 Fc65 Fv65 Av65 ) hZ (own_w hw 36 rfl) (own_w hw 3 rfl) (by decide) (by decide)) (g := (mkF m 151 #[.val (.int p0), .val (.int ((p0 &&& (2147483647 : Int32)) % (3 : Int32))), .val (.ref b42), .val (.ref a_PERSON), .val (.ref b62), .unset, .unset] [(.ref b62)])) rfl (by rw [hml]; rfl) (argsL := [(.ref b62)]) (rest := []) (lenOf pd__Ljava_lang_String__Lcom_example_scoped_authority_scopedauthority_Kind_ rfl) rfl (by show 2 * 0 + _ ≤ _; exact Nat.le_of_eq rfl) (hb hby at_151) (fun _ _ => ⟨rfl, rfl, (by decide : 3 + 1 ≤ _), (by decide : 16 + 3 ≤ _)⟩)
      dsimp only [Pt.U, Pt.locs, Pt.cells, Pt.slots] at X66 l66 y66 z66 st66 hQ66
      subst l66 y66 z66
      obtain ⟨rfl, N66q, O66, Kc66⟩ := hQ66
      have N66 := Fr.app N65 N66q
      have K66 := K65.trans Kc66 (fun x hx => nomatch hx)
      obtain ⟨cq67, kq67, q67a, q67b, q67c⟩ := isOf hZ rfl (E_PERSON.ext O66.2)
      obtain ⟨_, _, ⟨T67, L67, k67, n67⟩, -, X67, ⟨Lc67, hQ67, l67, y67, z67⟩, st67⟩ := X66.virtualBack hx (y := own_m4) (z := own_m4) hown (mvT hZ (own_w hw 66 rfl)) (mvT hZ (own_w hw 67 rfl)) (notFace_of_selects (args := #[]) (mvT hZ (own_w hw 69 rfl))) (mvT hZ (own_w hw 69 rfl)) (mvT hZ (own_w hw 68 rfl)) (by decide) (backOf (W := 0) (rm_f2 l Z a0 hw []  _ _ _ _ _ _ _ _ _ _ _ _ T66.heap n0 O66 hE) hZ (own_w hw 70 rfl) (own_w hw 3 rfl) (by decide) (by decide)) q67a q67c (g := (mkF m 157 #[.val (.int p0), .val (.int ((p0 &&& (2147483647 : Int32)) % (3 : Int32))), .val (.ref b42), .val (.ref a_PERSON), .val (.ref b62), .val (.ref a_PERSON), .unset] [(.ref a_PERSON)])) rfl (by rw [hml]; rfl) (Steps.refl _) (argsL := []) (rest := []) (lenOf pd___Ljava_lang_String_ rfl) rfl (by show 2 * 0 + _ ≤ _; exact Nat.le_of_eq rfl) (hb hby at_157) (fun _ _ => ⟨rfl, rfl, (by decide : 4 + 0 ≤ _), (by decide : 19 + 0 ≤ _)⟩)
      dsimp only [Pt.U, Pt.locs, Pt.cells, Pt.slots] at X67 l67 y67 z67 st67 hQ67
      subst l67 y67 z67
      obtain ⟨rfl, N67q, hp67⟩ := hQ67
      have N67 := Fr.app N66 N67q
      obtain ⟨_, _, ⟨T68, L68, k68, n68⟩, -, X68, ⟨Lc68, hQ68, l68, y68, z68⟩, st68⟩ := Jvm.LawKit.callS X67 hx (y := own_m2) hown (mvT hZ (own_w hw 34 rfl)) (mvT hZ (own_w hw 35 rfl)) (mvT hZ (own_w hw 3 rfl)) (mvT hZ (own_w hw 36 rfl)) (by decide) (backOf (W := 0) (rm_fw_PERSON l Z a0 hw [] a_PERSON_word a_PERSON_word_value kw_PERSON _ _ _ _ _ _ _ _ _ _ _ _ T66.heap n0 O66 hE (E_PERSON_word.ext O66.2) (F_PERSON_word_coder.ext O66.2) (F_PERSON_word_value.ext O66.2) (Aw_PERSON.ext O66.2) ) hZ (own_w hw 36 rfl) (own_w hw 3 rfl) (by decide) (by decide)) (g := (mkF m 160 #[.val (.int p0), .val (.int ((p0 &&& (2147483647 : Int32)) % (3 : Int32))), .val (.ref b42), .val (.ref a_PERSON), .val (.ref b62), .val (.ref a_PERSON), .unset] [(.ref a_PERSON_word)])) rfl (by rw [hml]; rfl) (argsL := [(.ref a_PERSON_word)]) (rest := []) (lenOf pd__Ljava_lang_String__Lcom_example_scoped_authority_scopedauthority_Kind_ rfl) rfl (by show 2 * 0 + _ ≤ _; exact Nat.le_of_eq rfl) (hb hby at_160) (fun _ _ => ⟨rfl, hp67, (by decide : 4 + 1 ≤ _), (by decide : 19 + 3 ≤ _)⟩)
      dsimp only [Pt.U, Pt.locs, Pt.cells, Pt.slots] at X68 l68 y68 z68 st68 hQ68
      subst l68 y68 z68
      obtain ⟨rfl, N68q, O68, Kc68⟩ := hQ68
      have N68 := Fr.app N67 N68q
      have K68 := K66.trans Kc68 (fun x hx => nomatch hx)
      have k69 : ∀ t, own_At p e below m T68 182 #[.val (.int p0), .val (.int ((p0 &&& (2147483647 : Int32)) % (3 : Int32))), .val (.ref b42), .val (.ref a_PERSON), .val (.ref b62), .val (.ref a_PERSON), .val (.ref a_PERSON)] [(.int (1 : Int32))] t → own_En p e below m s₁ #[(.int p0)] maxLocals t := by
        intro t k
        refine k40 t ?_
        refine XS.icmpNo X00.here hx rfl (hb hby at_55) rfl (teq hc41).2 ?_
        show own_At p e below m s₁ 58 #[.val (.int p0), .val (.int ((p0 &&& (2147483647 : Int32)) % (3 : Int32))), .unset, .unset, .unset, .unset, .unset] [] t
        refine XS.bipush X00.here hx rfl (hb hby at_58) ?_
        show own_At p e below m s₁ 60 #[.val (.int p0), .val (.int ((p0 &&& (2147483647 : Int32)) % (3 : Int32))), .unset, .unset, .unset, .unset, .unset] [(.int (6 : Int32))] t
        refine st42 _ ?_
        show own_At p e below m T42 62 #[.val (.int p0), .val (.int ((p0 &&& (2147483647 : Int32)) % (3 : Int32))), .unset, .unset, .unset, .unset, .unset] [(.ref b42)] t
        refine XS.dup X42.here hx rfl (hb hby at_62) rfl rfl ?_
        show own_At p e below m T42 63 #[.val (.int p0), .val (.int ((p0 &&& (2147483647 : Int32)) % (3 : Int32))), .unset, .unset, .unset, .unset, .unset] [(.ref b42), (.ref b42)] t
        refine XS.iconst X42.here hx rfl (hb hby at_63) ?_
        show own_At p e below m T42 64 #[.val (.int p0), .val (.int ((p0 &&& (2147483647 : Int32)) % (3 : Int32))), .unset, .unset, .unset, .unset, .unset] [(.int (0 : Int32)), (.ref b42), (.ref b42)] t
        refine XS.bipush X42.here hx rfl (hb hby at_64) ?_
        show own_At p e below m T42 66 #[.val (.int p0), .val (.int ((p0 &&& (2147483647 : Int32)) % (3 : Int32))), .unset, .unset, .unset, .unset, .unset] [(.int (112 : Int32)), (.int (0 : Int32)), (.ref b42), (.ref b42)] t
        refine st45 _ ?_
        show own_At p e below m T45 67 #[.val (.int p0), .val (.int ((p0 &&& (2147483647 : Int32)) % (3 : Int32))), .unset, .unset, .unset, .unset, .unset] [(.ref b42)] t
        refine XS.dup X45.here hx rfl (hb hby at_67) rfl rfl ?_
        show own_At p e below m T45 68 #[.val (.int p0), .val (.int ((p0 &&& (2147483647 : Int32)) % (3 : Int32))), .unset, .unset, .unset, .unset, .unset] [(.ref b42), (.ref b42)] t
        refine XS.iconst X45.here hx rfl (hb hby at_68) ?_
        show own_At p e below m T45 69 #[.val (.int p0), .val (.int ((p0 &&& (2147483647 : Int32)) % (3 : Int32))), .unset, .unset, .unset, .unset, .unset] [(.int (1 : Int32)), (.ref b42), (.ref b42)] t
        refine XS.bipush X45.here hx rfl (hb hby at_69) ?_
        show own_At p e below m T45 71 #[.val (.int p0), .val (.int ((p0 &&& (2147483647 : Int32)) % (3 : Int32))), .unset, .unset, .unset, .unset, .unset] [(.int (101 : Int32)), (.int (1 : Int32)), (.ref b42), (.ref b42)] t
        refine st48 _ ?_
        show own_At p e below m T48 72 #[.val (.int p0), .val (.int ((p0 &&& (2147483647 : Int32)) % (3 : Int32))), .unset, .unset, .unset, .unset, .unset] [(.ref b42)] t
        refine XS.dup X48.here hx rfl (hb hby at_72) rfl rfl ?_
        show own_At p e below m T48 73 #[.val (.int p0), .val (.int ((p0 &&& (2147483647 : Int32)) % (3 : Int32))), .unset, .unset, .unset, .unset, .unset] [(.ref b42), (.ref b42)] t
        refine XS.iconst X48.here hx rfl (hb hby at_73) ?_
        show own_At p e below m T48 74 #[.val (.int p0), .val (.int ((p0 &&& (2147483647 : Int32)) % (3 : Int32))), .unset, .unset, .unset, .unset, .unset] [(.int (2 : Int32)), (.ref b42), (.ref b42)] t
        refine XS.bipush X48.here hx rfl (hb hby at_74) ?_
        show own_At p e below m T48 76 #[.val (.int p0), .val (.int ((p0 &&& (2147483647 : Int32)) % (3 : Int32))), .unset, .unset, .unset, .unset, .unset] [(.int (114 : Int32)), (.int (2 : Int32)), (.ref b42), (.ref b42)] t
        refine st51 _ ?_
        show own_At p e below m T51 77 #[.val (.int p0), .val (.int ((p0 &&& (2147483647 : Int32)) % (3 : Int32))), .unset, .unset, .unset, .unset, .unset] [(.ref b42)] t
        refine XS.dup X51.here hx rfl (hb hby at_77) rfl rfl ?_
        show own_At p e below m T51 78 #[.val (.int p0), .val (.int ((p0 &&& (2147483647 : Int32)) % (3 : Int32))), .unset, .unset, .unset, .unset, .unset] [(.ref b42), (.ref b42)] t
        refine XS.iconst X51.here hx rfl (hb hby at_78) ?_
        show own_At p e below m T51 79 #[.val (.int p0), .val (.int ((p0 &&& (2147483647 : Int32)) % (3 : Int32))), .unset, .unset, .unset, .unset, .unset] [(.int (3 : Int32)), (.ref b42), (.ref b42)] t
        refine XS.bipush X51.here hx rfl (hb hby at_79) ?_
        show own_At p e below m T51 81 #[.val (.int p0), .val (.int ((p0 &&& (2147483647 : Int32)) % (3 : Int32))), .unset, .unset, .unset, .unset, .unset] [(.int (115 : Int32)), (.int (3 : Int32)), (.ref b42), (.ref b42)] t
        refine st54 _ ?_
        show own_At p e below m T54 82 #[.val (.int p0), .val (.int ((p0 &&& (2147483647 : Int32)) % (3 : Int32))), .unset, .unset, .unset, .unset, .unset] [(.ref b42)] t
        refine XS.dup X54.here hx rfl (hb hby at_82) rfl rfl ?_
        show own_At p e below m T54 83 #[.val (.int p0), .val (.int ((p0 &&& (2147483647 : Int32)) % (3 : Int32))), .unset, .unset, .unset, .unset, .unset] [(.ref b42), (.ref b42)] t
        refine XS.iconst X54.here hx rfl (hb hby at_83) ?_
        show own_At p e below m T54 84 #[.val (.int p0), .val (.int ((p0 &&& (2147483647 : Int32)) % (3 : Int32))), .unset, .unset, .unset, .unset, .unset] [(.int (4 : Int32)), (.ref b42), (.ref b42)] t
        refine XS.bipush X54.here hx rfl (hb hby at_84) ?_
        show own_At p e below m T54 86 #[.val (.int p0), .val (.int ((p0 &&& (2147483647 : Int32)) % (3 : Int32))), .unset, .unset, .unset, .unset, .unset] [(.int (111 : Int32)), (.int (4 : Int32)), (.ref b42), (.ref b42)] t
        refine st57 _ ?_
        show own_At p e below m T57 87 #[.val (.int p0), .val (.int ((p0 &&& (2147483647 : Int32)) % (3 : Int32))), .unset, .unset, .unset, .unset, .unset] [(.ref b42)] t
        refine XS.dup X57.here hx rfl (hb hby at_87) rfl rfl ?_
        show own_At p e below m T57 88 #[.val (.int p0), .val (.int ((p0 &&& (2147483647 : Int32)) % (3 : Int32))), .unset, .unset, .unset, .unset, .unset] [(.ref b42), (.ref b42)] t
        refine XS.iconst X57.here hx rfl (hb hby at_88) ?_
        show own_At p e below m T57 89 #[.val (.int p0), .val (.int ((p0 &&& (2147483647 : Int32)) % (3 : Int32))), .unset, .unset, .unset, .unset, .unset] [(.int (5 : Int32)), (.ref b42), (.ref b42)] t
        refine XS.bipush X57.here hx rfl (hb hby at_89) ?_
        show own_At p e below m T57 91 #[.val (.int p0), .val (.int ((p0 &&& (2147483647 : Int32)) % (3 : Int32))), .unset, .unset, .unset, .unset, .unset] [(.int (110 : Int32)), (.int (5 : Int32)), (.ref b42), (.ref b42)] t
        refine st60 _ ?_
        show own_At p e below m T60 92 #[.val (.int p0), .val (.int ((p0 &&& (2147483647 : Int32)) % (3 : Int32))), .unset, .unset, .unset, .unset, .unset] [(.ref b42)] t
        refine XS.astoreN X60.here hx rfl (hb hby at_92) rfl rfl (l' := #[.val (.int p0), .val (.int ((p0 &&& (2147483647 : Int32)) % (3 : Int32))), .val (.ref b42), .unset, .unset, .unset, .unset]) rfl ?_
        show own_At p e below m T60 93 #[.val (.int p0), .val (.int ((p0 &&& (2147483647 : Int32)) % (3 : Int32))), .val (.ref b42), .unset, .unset, .unset, .unset] [] t
        refine st61 _ ?_
        show own_At p e below m T61 96 #[.val (.int p0), .val (.int ((p0 &&& (2147483647 : Int32)) % (3 : Int32))), .val (.ref b42), .unset, .unset, .unset, .unset] [(.ref a_PERSON)] t
        refine XS.astoreN X61.here hx rfl (hb hby at_96) rfl rfl (l' := #[.val (.int p0), .val (.int ((p0 &&& (2147483647 : Int32)) % (3 : Int32))), .val (.ref b42), .val (.ref a_PERSON), .unset, .unset, .unset]) rfl ?_
        show own_At p e below m T61 97 #[.val (.int p0), .val (.int ((p0 &&& (2147483647 : Int32)) % (3 : Int32))), .val (.ref b42), .val (.ref a_PERSON), .unset, .unset, .unset] [] t
        refine XS.goto X61.here hx rfl (pc0 := 97) (pc' := 139) rfl (hb hby at_97) (by decide) (by decide) ?_
        show own_At p e below m T61 139 #[.val (.int p0), .val (.int ((p0 &&& (2147483647 : Int32)) % (3 : Int32))), .val (.ref b42), .val (.ref a_PERSON), .unset, .unset, .unset] [] t
        refine st62 _ ?_
        show own_At p e below m T62 142 #[.val (.int p0), .val (.int ((p0 &&& (2147483647 : Int32)) % (3 : Int32))), .val (.ref b42), .val (.ref a_PERSON), .unset, .unset, .unset] [(.ref b62)] t
        refine XS.dup X62.here hx rfl (hb hby at_142) rfl rfl ?_
        show own_At p e below m T62 143 #[.val (.int p0), .val (.int ((p0 &&& (2147483647 : Int32)) % (3 : Int32))), .val (.ref b42), .val (.ref a_PERSON), .unset, .unset, .unset] [(.ref b62), (.ref b62)] t
        refine XS.aloadN X62.here hx rfl (hb hby at_143) rfl rfl ?_
        show own_At p e below m T62 144 #[.val (.int p0), .val (.int ((p0 &&& (2147483647 : Int32)) % (3 : Int32))), .val (.ref b42), .val (.ref a_PERSON), .unset, .unset, .unset] [(.ref b42), (.ref b62), (.ref b62)] t
        refine st65.trans ?_
        show own_At p e below m T65 147 #[.val (.int p0), .val (.int ((p0 &&& (2147483647 : Int32)) % (3 : Int32))), .val (.ref b42), .val (.ref a_PERSON), .unset, .unset, .unset] [(.ref b62)] t
        refine XS.astore X65.here hx rfl (hb hby at_147) rfl rfl (l' := #[.val (.int p0), .val (.int ((p0 &&& (2147483647 : Int32)) % (3 : Int32))), .val (.ref b42), .val (.ref a_PERSON), .val (.ref b62), .unset, .unset]) rfl ?_
        show own_At p e below m T65 149 #[.val (.int p0), .val (.int ((p0 &&& (2147483647 : Int32)) % (3 : Int32))), .val (.ref b42), .val (.ref a_PERSON), .val (.ref b62), .unset, .unset] [] t
        refine XS.aload X65.here hx rfl (hb hby at_149) rfl rfl ?_
        show own_At p e below m T65 151 #[.val (.int p0), .val (.int ((p0 &&& (2147483647 : Int32)) % (3 : Int32))), .val (.ref b42), .val (.ref a_PERSON), .val (.ref b62), .unset, .unset] [(.ref b62)] t
        refine st66 _ ?_
        show own_At p e below m T66 154 #[.val (.int p0), .val (.int ((p0 &&& (2147483647 : Int32)) % (3 : Int32))), .val (.ref b42), .val (.ref a_PERSON), .val (.ref b62), .unset, .unset] [(.ref a_PERSON)] t
        refine XS.astore X66.here hx rfl (hb hby at_154) rfl rfl (l' := #[.val (.int p0), .val (.int ((p0 &&& (2147483647 : Int32)) % (3 : Int32))), .val (.ref b42), .val (.ref a_PERSON), .val (.ref b62), .val (.ref a_PERSON), .unset]) rfl ?_
        show own_At p e below m T66 156 #[.val (.int p0), .val (.int ((p0 &&& (2147483647 : Int32)) % (3 : Int32))), .val (.ref b42), .val (.ref a_PERSON), .val (.ref b62), .val (.ref a_PERSON), .unset] [] t
        refine XS.aloadN X66.here hx rfl (hb hby at_156) rfl rfl ?_
        show own_At p e below m T66 157 #[.val (.int p0), .val (.int ((p0 &&& (2147483647 : Int32)) % (3 : Int32))), .val (.ref b42), .val (.ref a_PERSON), .val (.ref b62), .val (.ref a_PERSON), .unset] [(.ref a_PERSON)] t
        refine st67.trans ?_
        show own_At p e below m T67 160 #[.val (.int p0), .val (.int ((p0 &&& (2147483647 : Int32)) % (3 : Int32))), .val (.ref b42), .val (.ref a_PERSON), .val (.ref b62), .val (.ref a_PERSON), .unset] [(.ref a_PERSON_word)] t
        refine st68 _ ?_
        show own_At p e below m T68 163 #[.val (.int p0), .val (.int ((p0 &&& (2147483647 : Int32)) % (3 : Int32))), .val (.ref b42), .val (.ref a_PERSON), .val (.ref b62), .val (.ref a_PERSON), .unset] [(.ref a_PERSON)] t
        refine XS.astore X68.here hx rfl (hb hby at_163) rfl rfl (l' := #[.val (.int p0), .val (.int ((p0 &&& (2147483647 : Int32)) % (3 : Int32))), .val (.ref b42), .val (.ref a_PERSON), .val (.ref b62), .val (.ref a_PERSON), .val (.ref a_PERSON)]) rfl ?_
        show own_At p e below m T68 165 #[.val (.int p0), .val (.int ((p0 &&& (2147483647 : Int32)) % (3 : Int32))), .val (.ref b42), .val (.ref a_PERSON), .val (.ref b62), .val (.ref a_PERSON), .val (.ref a_PERSON)] [] t
        refine XS.aload X68.here hx rfl (hb hby at_165) rfl rfl ?_
        show own_At p e below m T68 167 #[.val (.int p0), .val (.int ((p0 &&& (2147483647 : Int32)) % (3 : Int32))), .val (.ref b42), .val (.ref a_PERSON), .val (.ref b62), .val (.ref a_PERSON), .val (.ref a_PERSON)] [(.ref a_PERSON)] t
        refine XS.aloadN X68.here hx rfl (hb hby at_167) rfl rfl ?_
        show own_At p e below m T68 168 #[.val (.int p0), .val (.int ((p0 &&& (2147483647 : Int32)) % (3 : Int32))), .val (.ref b42), .val (.ref a_PERSON), .val (.ref b62), .val (.ref a_PERSON), .val (.ref a_PERSON)] [(.ref a_PERSON), (.ref a_PERSON)] t
        refine Jvm.RoadKit.acmp (g := (mkF m 168 #[.val (.int p0), .val (.int ((p0 &&& (2147483647 : Int32)) % (3 : Int32))), .val (.ref b42), .val (.ref a_PERSON), .val (.ref b62), .val (.ref a_PERSON), .val (.ref a_PERSON)] [(.ref a_PERSON), (.ref a_PERSON)])) X68 hx rfl rfl rfl (pc0 := 168) (pc' := 171) (same := true) rfl (hb hby at_168) rfl (decide_eq_true rfl) (by decide) (by decide) ?_
        show own_At p e below m T68 171 #[.val (.int p0), .val (.int ((p0 &&& (2147483647 : Int32)) % (3 : Int32))), .val (.ref b42), .val (.ref a_PERSON), .val (.ref b62), .val (.ref a_PERSON), .val (.ref a_PERSON)] [] t
        refine XS.aload X68.here hx rfl (hb hby at_171) rfl rfl ?_
        show own_At p e below m T68 173 #[.val (.int p0), .val (.int ((p0 &&& (2147483647 : Int32)) % (3 : Int32))), .val (.ref b42), .val (.ref a_PERSON), .val (.ref b62), .val (.ref a_PERSON), .val (.ref a_PERSON)] [(.ref a_PERSON)] t
        refine XS.aloadN X68.here hx rfl (hb hby at_173) rfl rfl ?_
        show own_At p e below m T68 174 #[.val (.int p0), .val (.int ((p0 &&& (2147483647 : Int32)) % (3 : Int32))), .val (.ref b42), .val (.ref a_PERSON), .val (.ref b62), .val (.ref a_PERSON), .val (.ref a_PERSON)] [(.ref a_PERSON), (.ref a_PERSON)] t
        refine Jvm.RoadKit.acmp (g := (mkF m 174 #[.val (.int p0), .val (.int ((p0 &&& (2147483647 : Int32)) % (3 : Int32))), .val (.ref b42), .val (.ref a_PERSON), .val (.ref b62), .val (.ref a_PERSON), .val (.ref a_PERSON)] [(.ref a_PERSON), (.ref a_PERSON)])) X68 hx rfl rfl rfl (pc0 := 174) (pc' := 177) (same := true) rfl (hb hby at_174) rfl (decide_eq_true rfl) (by decide) (by decide) ?_
        show own_At p e below m T68 177 #[.val (.int p0), .val (.int ((p0 &&& (2147483647 : Int32)) % (3 : Int32))), .val (.ref b42), .val (.ref a_PERSON), .val (.ref b62), .val (.ref a_PERSON), .val (.ref a_PERSON)] [] t
        refine XS.iconst X68.here hx rfl (hb hby at_177) ?_
        show own_At p e below m T68 178 #[.val (.int p0), .val (.int ((p0 &&& (2147483647 : Int32)) % (3 : Int32))), .val (.ref b42), .val (.ref a_PERSON), .val (.ref b62), .val (.ref a_PERSON), .val (.ref a_PERSON)] [(.int (1 : Int32))] t
        refine XS.goto X68.here hx rfl (pc0 := 178) (pc' := 182) rfl (hb hby at_178) (by decide) (by decide) ?_
        show own_At p e below m T68 182 #[.val (.int p0), .val (.int ((p0 &&& (2147483647 : Int32)) % (3 : Int32))), .val (.ref b42), .val (.ref a_PERSON), .val (.ref b62), .val (.ref a_PERSON), .val (.ref a_PERSON)] [(.int (1 : Int32))] t
        exact k
      obtain ⟨fs, hr, hrun, hended, hW, hsame⟩ := X68.leave (v := some (.int (1 : Int32))) (fun h => by rw [Bd.returns] at h; cases h)
      refine hNG ⟨_, _, k69 _ ?_, hrun, hended, _, _, rfl, ?_, ⟨_, rfl⟩, hW, hsame.mono (by decide) (by decide)⟩
      · exact retN X68 hx (t := .boolean) Bd.returns (by simp) (hb hby at_182) hr
      · show Q_law Z p0 a_DOMAIN a__VALUES a_PERSON a_OBJECT a_DOMAIN_word a_DOMAIN_word_value a_PERSON_word a_PERSON_word_value a_OBJECT_word a_OBJECT_word_value z_COMPACT_STRINGS r_SIOOBE_FORMATTER h0 n0 _ T68.heap _
        exact ⟨rfl, N68⟩
    · obtain ⟨T70, h70, c70, X70, e70, E70, A70, st70⟩ := newP X00 hx hZ (own_w hw 1 rfl) e00 (g := (mkF m 102 #[.val (.int p0), .val (.int ((p0 &&& (2147483647 : Int32)) % (3 : Int32))), .unset, .unset, .unset, .unset, .unset] [(.int (6 : Int32))])) rfl (hb hby at_102) rfl (by decide) (cap := 6) (by decide) (by decide) (by decide) (by decide)
      obtain ⟨b70, g70⟩ : ∃ z, z = h0.size := ⟨_, rfl⟩
      rw [← g70] at A70 st70
      have O70 := O0.ext E70
      have g_b70 : n0 ≤ b70 := Nat.le_trans (Nat.le_of_eq O0.1.symm) (Nat.le_trans O0.2.1 (Nat.le_of_eq g70.symm))
      have s_b70 : h0.size ≤ b70 := Nat.le_trans K00.1 (Nat.le_of_eq g70.symm)
      have K70 := K00.ext E70
      have V70 : Arv Z h70 b70 c70 .char (6 : Int32) [(.int (0 : Int32)), (.int (0 : Int32)), (.int (0 : Int32)), (.int (0 : Int32)), (.int (0 : Int32)), (.int (0 : Int32))] (.int (0 : Int32)) := (Arv.new A70 (by decide)).pad (pad_rep [] (.int (0 : Int32)) 6)
      have lt_b70 := V70.lt
      obtain ⟨cl71, Ar71, q71, Sz71, Nn71, Hs71, Gf71⟩ := id V70
      have hin72 : ¬ ((0 : Int32) < 0 ∨ cl71.slots.size ≤ ((0 : Int32)).toNatClampNeg) := inb_of Sz71 ⟨by decide, by decide⟩
      obtain ⟨T73, h73, X73, e73, W73, st73⟩ := stC X70 hx hZ e70 Ar71 (j := (0 : Int32)) hin72 (g := (mkF m 108 #[.val (.int p0), .val (.int ((p0 &&& (2147483647 : Int32)) % (3 : Int32))), .unset, .unset, .unset, .unset, .unset] [(.int (111 : Int32)), (.int (0 : Int32)), (.ref b70), (.ref b70)])) rfl rfl (hb hby at_108)
      have V73 : Arv Z h73 b70 c70 .char (6 : Int32) [(.int (111 : Int32)), (.int (0 : Int32)), (.int (0 : Int32)), (.int (0 : Int32)), (.int (0 : Int32)), (.int (0 : Int32))] (.int (0 : Int32)) := Arv.set Ar71 q71 Sz71 Nn71 Hs71 Gf71 (fits_nar_char _) W73 0 rfl (Nat.le_of_ble_eq_true rfl)
      have N73 := Fr.snoc X73 N00 g_b70
      have O73 := O70.wr W73 g_b70
      have K73 := K70.wr W73 (Or.inr s_b70)
      obtain ⟨cl74, Ar74, q74, Sz74, Nn74, Hs74, Gf74⟩ := id V73
      have hin75 : ¬ ((1 : Int32) < 0 ∨ cl74.slots.size ≤ ((1 : Int32)).toNatClampNeg) := inb_of Sz74 ⟨by decide, by decide⟩
      obtain ⟨T76, h76, X76, e76, W76, st76⟩ := stC X73 hx hZ e73 Ar74 (j := (1 : Int32)) hin75 (g := (mkF m 113 #[.val (.int p0), .val (.int ((p0 &&& (2147483647 : Int32)) % (3 : Int32))), .unset, .unset, .unset, .unset, .unset] [(.int (98 : Int32)), (.int (1 : Int32)), (.ref b70), (.ref b70)])) rfl rfl (hb hby at_113)
      have V76 : Arv Z h76 b70 c70 .char (6 : Int32) [(.int (111 : Int32)), (.int (98 : Int32)), (.int (0 : Int32)), (.int (0 : Int32)), (.int (0 : Int32)), (.int (0 : Int32))] (.int (0 : Int32)) := Arv.set Ar74 q74 Sz74 Nn74 Hs74 Gf74 (fits_nar_char _) W76 1 rfl (Nat.le_of_ble_eq_true rfl)
      have N76 := Fr.snoc X76 N73 g_b70
      have O76 := O73.wr W76 g_b70
      have K76 := K73.wr W76 (Or.inr s_b70)
      obtain ⟨cl77, Ar77, q77, Sz77, Nn77, Hs77, Gf77⟩ := id V76
      have hin78 : ¬ ((2 : Int32) < 0 ∨ cl77.slots.size ≤ ((2 : Int32)).toNatClampNeg) := inb_of Sz77 ⟨by decide, by decide⟩
      obtain ⟨T79, h79, X79, e79, W79, st79⟩ := stC X76 hx hZ e76 Ar77 (j := (2 : Int32)) hin78 (g := (mkF m 118 #[.val (.int p0), .val (.int ((p0 &&& (2147483647 : Int32)) % (3 : Int32))), .unset, .unset, .unset, .unset, .unset] [(.int (106 : Int32)), (.int (2 : Int32)), (.ref b70), (.ref b70)])) rfl rfl (hb hby at_118)
      have V79 : Arv Z h79 b70 c70 .char (6 : Int32) [(.int (111 : Int32)), (.int (98 : Int32)), (.int (106 : Int32)), (.int (0 : Int32)), (.int (0 : Int32)), (.int (0 : Int32))] (.int (0 : Int32)) := Arv.set Ar77 q77 Sz77 Nn77 Hs77 Gf77 (fits_nar_char _) W79 2 rfl (Nat.le_of_ble_eq_true rfl)
      have N79 := Fr.snoc X79 N76 g_b70
      have O79 := O76.wr W79 g_b70
      have K79 := K76.wr W79 (Or.inr s_b70)
      obtain ⟨cl80, Ar80, q80, Sz80, Nn80, Hs80, Gf80⟩ := id V79
      have hin81 : ¬ ((3 : Int32) < 0 ∨ cl80.slots.size ≤ ((3 : Int32)).toNatClampNeg) := inb_of Sz80 ⟨by decide, by decide⟩
      obtain ⟨T82, h82, X82, e82, W82, st82⟩ := stC X79 hx hZ e79 Ar80 (j := (3 : Int32)) hin81 (g := (mkF m 123 #[.val (.int p0), .val (.int ((p0 &&& (2147483647 : Int32)) % (3 : Int32))), .unset, .unset, .unset, .unset, .unset] [(.int (101 : Int32)), (.int (3 : Int32)), (.ref b70), (.ref b70)])) rfl rfl (hb hby at_123)
      have V82 : Arv Z h82 b70 c70 .char (6 : Int32) [(.int (111 : Int32)), (.int (98 : Int32)), (.int (106 : Int32)), (.int (101 : Int32)), (.int (0 : Int32)), (.int (0 : Int32))] (.int (0 : Int32)) := Arv.set Ar80 q80 Sz80 Nn80 Hs80 Gf80 (fits_nar_char _) W82 3 rfl (Nat.le_of_ble_eq_true rfl)
      have N82 := Fr.snoc X82 N79 g_b70
      have O82 := O79.wr W82 g_b70
      have K82 := K79.wr W82 (Or.inr s_b70)
      obtain ⟨cl83, Ar83, q83, Sz83, Nn83, Hs83, Gf83⟩ := id V82
      have hin84 : ¬ ((4 : Int32) < 0 ∨ cl83.slots.size ≤ ((4 : Int32)).toNatClampNeg) := inb_of Sz83 ⟨by decide, by decide⟩
      obtain ⟨T85, h85, X85, e85, W85, st85⟩ := stC X82 hx hZ e82 Ar83 (j := (4 : Int32)) hin84 (g := (mkF m 128 #[.val (.int p0), .val (.int ((p0 &&& (2147483647 : Int32)) % (3 : Int32))), .unset, .unset, .unset, .unset, .unset] [(.int (99 : Int32)), (.int (4 : Int32)), (.ref b70), (.ref b70)])) rfl rfl (hb hby at_128)
      have V85 : Arv Z h85 b70 c70 .char (6 : Int32) [(.int (111 : Int32)), (.int (98 : Int32)), (.int (106 : Int32)), (.int (101 : Int32)), (.int (99 : Int32)), (.int (0 : Int32))] (.int (0 : Int32)) := Arv.set Ar83 q83 Sz83 Nn83 Hs83 Gf83 (fits_nar_char _) W85 4 rfl (Nat.le_of_ble_eq_true rfl)
      have N85 := Fr.snoc X85 N82 g_b70
      have O85 := O82.wr W85 g_b70
      have K85 := K82.wr W85 (Or.inr s_b70)
      obtain ⟨cl86, Ar86, q86, Sz86, Nn86, Hs86, Gf86⟩ := id V85
      have hin87 : ¬ ((5 : Int32) < 0 ∨ cl86.slots.size ≤ ((5 : Int32)).toNatClampNeg) := inb_of Sz86 ⟨by decide, by decide⟩
      obtain ⟨T88, h88, X88, e88, W88, st88⟩ := stC X85 hx hZ e85 Ar86 (j := (5 : Int32)) hin87 (g := (mkF m 133 #[.val (.int p0), .val (.int ((p0 &&& (2147483647 : Int32)) % (3 : Int32))), .unset, .unset, .unset, .unset, .unset] [(.int (116 : Int32)), (.int (5 : Int32)), (.ref b70), (.ref b70)])) rfl rfl (hb hby at_133)
      have V88 : Arv Z h88 b70 c70 .char (6 : Int32) [(.int (111 : Int32)), (.int (98 : Int32)), (.int (106 : Int32)), (.int (101 : Int32)), (.int (99 : Int32)), (.int (116 : Int32))] (.int (0 : Int32)) := Arv.set Ar86 q86 Sz86 Nn86 Hs86 Gf86 (fits_nar_char _) W88 5 rfl (Nat.le_of_ble_eq_true rfl)
      have N88 := Fr.snoc X88 N85 g_b70
      have O88 := O85.wr W88 g_b70
      have K88 := K85.wr W88 (Or.inr s_b70)
      obtain ⟨T89, X89, e89, st89⟩ := getS2 X88 hx hZ hown (host := "") (Or.inl (own_w hw 71 rfl)) Via.refl e88 (S_OBJECT.ext O88.2) (g := (mkF m 135 #[.val (.int p0), .val (.int ((p0 &&& (2147483647 : Int32)) % (3 : Int32))), .val (.ref b70), .unset, .unset, .unset, .unset] [])) rfl (hb hby at_135)
      obtain ⟨T90, h90, X90, e90, E90, A90, D90, -, st90⟩ := newO X89 hx hZ hown (own_w hw 5 rfl) (own_w hw 6 rfl) (own_w hw 7 rfl) e89 (g := (mkF m 139 #[.val (.int p0), .val (.int ((p0 &&& (2147483647 : Int32)) % (3 : Int32))), .val (.ref b70), .val (.ref a_OBJECT), .unset, .unset, .unset] [])) rfl (hb hby at_139) (by decide) (by decide)
      obtain ⟨b90, g90⟩ : ∃ z, z = h88.size := ⟨_, rfl⟩
      rw [← g90] at A90 D90 st90
      have O90 := O88.ext E90
      have g_b90 : n0 ≤ b90 := Nat.le_trans (Nat.le_of_eq O88.1.symm) (Nat.le_trans O88.2.1 (Nat.le_of_eq g90.symm))
      have s_b90 : h0.size ≤ b90 := Nat.le_trans K88.1 (Nat.le_of_eq g90.symm)
      have K90 := K88.ext E90
      have lt_b90 := A90.lt
      have F90_coder : Fld Z h90 b90 "java/lang/String" "coder" "B" (.int (0 : Int32)) := D90 (Or.inr (own_w hw 31 rfl)) (ty := .byte) (by decide)
      have F90_value : Fld Z h90 b90 "java/lang/String" "value" "[B" .null := D90 (Or.inr (own_w hw 33 rfl)) (ty := (.array .byte)) (by decide)
      have f91 := (V88.ext E90)
      have hp92 : ∀ c ∈ ([(111 : Int32), (98 : Int32), (106 : Int32), (101 : Int32), (99 : Int32), (116 : Int32)] : List Int32), ¬ c < 0 ∧ ¬ (255 : Int32) < c := own_bd_OBJECT
      obtain ⟨_, _, ⟨T93, L93, k93, n93⟩, -, X93, ⟨Lc93, hQ93, l93, y93, z93⟩, st93⟩ := X90.specialBack hx (y := own_m3) rfl hown (mvT hZ (own_w hw 8 rfl)) (mvT hZ (own_w hw 9 rfl)) (mvT hZ (own_w hw 10 rfl)) (by decide) (StrChars.Road.backV (W := 1) hZ (own_hws hw) (kI := 4) (own_w hw 6 rfl) (cs := ([(111 : Int32), (98 : Int32), (106 : Int32), (101 : Int32), (99 : Int32), (116 : Int32)] : List Int32)) (bs := (([(111 : Int32), (98 : Int32), (106 : Int32), (101 : Int32), (99 : Int32), (116 : Int32)] : List Int32)).map (fun c => c.toInt8.toInt32)) (n := 6) g_b90 (Nat.le_trans (Nat.le_of_eq O90.1.symm) O90.2.1) A90 F90_value F90_coder f91 (S_COMPACT_STRINGS.ext O90.2) nz_COMPACT_STRINGS rfl rfl (by decide) (by decide) hp92 rfl (by decide) (by decide)) (g := (mkF m 144 #[.val (.int p0), .val (.int ((p0 &&& (2147483647 : Int32)) % (3 : Int32))), .val (.ref b70), .val (.ref a_OBJECT), .unset, .unset, .unset] [(.ref b70), (.ref b90), (.ref b90)])) rfl (by rw [hml]; rfl) (Steps.refl _) (a := b90) (argsL := [(.ref b70)]) (rest := [(.ref b90)]) (lenOf pd___C_V rfl) rfl (by show 2 * 0 + _ ≤ _; exact Nat.le_of_eq rfl) (hb hby at_144) (fun _ _ => ⟨rfl, e90, (by decide : 2 + 1 ≤ _), (by decide : 10 + 6 ≤ _)⟩)
      dsimp only [Pt.U, Pt.locs, Pt.cells, Pt.slots] at X93 l93 y93 z93 st93 hQ93
      subst l93 y93 z93
      obtain ⟨rfl, N93q, Kc93, Ex93, Fc93, t93, kb93, g_t93, gs_t93, nx93, Fv93, Av93⟩ := hQ93
      have N93 := Fr.app N88 N93q
      have O93 := O90.keep Kc93 (allS g_b90 all0)
      have K93 := K90.trans Kc93 (allS (Or.inr s_b90) all0)
      have s_t93 := Nat.le_trans K90.1 gs_t93
      have lt_t93 := Av93.lt
      obtain ⟨_, _, ⟨T94, L94, k94, n94⟩, -, X94, ⟨Lc94, hQ94, l94, y94, z94⟩, st94⟩ := Jvm.LawKit.callS X93 hx (y := own_m2) hown (mvT hZ (own_w hw 34 rfl)) (mvT hZ (own_w hw 35 rfl)) (mvT hZ (own_w hw 3 rfl)) (mvT hZ (own_w hw 36 rfl)) (by decide) (backOf (W := 0) (rm_fw_OBJECT l Z a0 hw [] b90 t93 kb93 _ _ _ _ _ _ _ _ _ _ _ _ T93.heap n0 O93 hE Ex93 Fc93 Fv93 Av93 ) hZ (own_w hw 36 rfl) (own_w hw 3 rfl) (by decide) (by decide)) (g := (mkF m 151 #[.val (.int p0), .val (.int ((p0 &&& (2147483647 : Int32)) % (3 : Int32))), .val (.ref b70), .val (.ref a_OBJECT), .val (.ref b90), .unset, .unset] [(.ref b90)])) rfl (by rw [hml]; rfl) (argsL := [(.ref b90)]) (rest := []) (lenOf pd__Ljava_lang_String__Lcom_example_scoped_authority_scopedauthority_Kind_ rfl) rfl (by show 2 * 0 + _ ≤ _; exact Nat.le_of_eq rfl) (hb hby at_151) (fun _ _ => ⟨rfl, rfl, (by decide : 3 + 1 ≤ _), (by decide : 16 + 3 ≤ _)⟩)
      dsimp only [Pt.U, Pt.locs, Pt.cells, Pt.slots] at X94 l94 y94 z94 st94 hQ94
      subst l94 y94 z94
      obtain ⟨rfl, N94q, O94, Kc94⟩ := hQ94
      have N94 := Fr.app N93 N94q
      have K94 := K93.trans Kc94 (fun x hx => nomatch hx)
      obtain ⟨cq95, kq95, q95a, q95b, q95c⟩ := isOf hZ rfl (E_OBJECT.ext O94.2)
      obtain ⟨_, _, ⟨T95, L95, k95, n95⟩, -, X95, ⟨Lc95, hQ95, l95, y95, z95⟩, st95⟩ := X94.virtualBack hx (y := own_m4) (z := own_m4) hown (mvT hZ (own_w hw 66 rfl)) (mvT hZ (own_w hw 67 rfl)) (notFace_of_selects (args := #[]) (mvT hZ (own_w hw 69 rfl))) (mvT hZ (own_w hw 69 rfl)) (mvT hZ (own_w hw 68 rfl)) (by decide) (backOf (W := 0) (rm_f3 l Z a0 hw []  _ _ _ _ _ _ _ _ _ _ _ _ T94.heap n0 O94 hE) hZ (own_w hw 70 rfl) (own_w hw 3 rfl) (by decide) (by decide)) q95a q95c (g := (mkF m 157 #[.val (.int p0), .val (.int ((p0 &&& (2147483647 : Int32)) % (3 : Int32))), .val (.ref b70), .val (.ref a_OBJECT), .val (.ref b90), .val (.ref a_OBJECT), .unset] [(.ref a_OBJECT)])) rfl (by rw [hml]; rfl) (Steps.refl _) (argsL := []) (rest := []) (lenOf pd___Ljava_lang_String_ rfl) rfl (by show 2 * 0 + _ ≤ _; exact Nat.le_of_eq rfl) (hb hby at_157) (fun _ _ => ⟨rfl, rfl, (by decide : 4 + 0 ≤ _), (by decide : 19 + 0 ≤ _)⟩)
      dsimp only [Pt.U, Pt.locs, Pt.cells, Pt.slots] at X95 l95 y95 z95 st95 hQ95
      subst l95 y95 z95
      obtain ⟨rfl, N95q, hp95⟩ := hQ95
      have N95 := Fr.app N94 N95q
      obtain ⟨_, _, ⟨T96, L96, k96, n96⟩, -, X96, ⟨Lc96, hQ96, l96, y96, z96⟩, st96⟩ := Jvm.LawKit.callS X95 hx (y := own_m2) hown (mvT hZ (own_w hw 34 rfl)) (mvT hZ (own_w hw 35 rfl)) (mvT hZ (own_w hw 3 rfl)) (mvT hZ (own_w hw 36 rfl)) (by decide) (backOf (W := 0) (rm_fw_OBJECT l Z a0 hw [] a_OBJECT_word a_OBJECT_word_value kw_OBJECT _ _ _ _ _ _ _ _ _ _ _ _ T94.heap n0 O94 hE (E_OBJECT_word.ext O94.2) (F_OBJECT_word_coder.ext O94.2) (F_OBJECT_word_value.ext O94.2) (Aw_OBJECT.ext O94.2) ) hZ (own_w hw 36 rfl) (own_w hw 3 rfl) (by decide) (by decide)) (g := (mkF m 160 #[.val (.int p0), .val (.int ((p0 &&& (2147483647 : Int32)) % (3 : Int32))), .val (.ref b70), .val (.ref a_OBJECT), .val (.ref b90), .val (.ref a_OBJECT), .unset] [(.ref a_OBJECT_word)])) rfl (by rw [hml]; rfl) (argsL := [(.ref a_OBJECT_word)]) (rest := []) (lenOf pd__Ljava_lang_String__Lcom_example_scoped_authority_scopedauthority_Kind_ rfl) rfl (by show 2 * 0 + _ ≤ _; exact Nat.le_of_eq rfl) (hb hby at_160) (fun _ _ => ⟨rfl, hp95, (by decide : 4 + 1 ≤ _), (by decide : 19 + 3 ≤ _)⟩)
      dsimp only [Pt.U, Pt.locs, Pt.cells, Pt.slots] at X96 l96 y96 z96 st96 hQ96
      subst l96 y96 z96
      obtain ⟨rfl, N96q, O96, Kc96⟩ := hQ96
      have N96 := Fr.app N95 N96q
      have K96 := K94.trans Kc96 (fun x hx => nomatch hx)
      have k97 : ∀ t, own_At p e below m T96 182 #[.val (.int p0), .val (.int ((p0 &&& (2147483647 : Int32)) % (3 : Int32))), .val (.ref b70), .val (.ref a_OBJECT), .val (.ref b90), .val (.ref a_OBJECT), .val (.ref a_OBJECT)] [(.int (1 : Int32))] t → own_En p e below m s₁ #[(.int p0)] maxLocals t := by
        intro t k
        refine k40 t ?_
        refine XS.icmpYes X00.here hx rfl (pc0 := 55) (pc' := 100) rfl (hb hby at_55) rfl (feq hc41).2 (by decide) (by decide) ?_
        show own_At p e below m s₁ 100 #[.val (.int p0), .val (.int ((p0 &&& (2147483647 : Int32)) % (3 : Int32))), .unset, .unset, .unset, .unset, .unset] [] t
        refine XS.bipush X00.here hx rfl (hb hby at_100) ?_
        show own_At p e below m s₁ 102 #[.val (.int p0), .val (.int ((p0 &&& (2147483647 : Int32)) % (3 : Int32))), .unset, .unset, .unset, .unset, .unset] [(.int (6 : Int32))] t
        refine st70 _ ?_
        show own_At p e below m T70 104 #[.val (.int p0), .val (.int ((p0 &&& (2147483647 : Int32)) % (3 : Int32))), .unset, .unset, .unset, .unset, .unset] [(.ref b70)] t
        refine XS.dup X70.here hx rfl (hb hby at_104) rfl rfl ?_
        show own_At p e below m T70 105 #[.val (.int p0), .val (.int ((p0 &&& (2147483647 : Int32)) % (3 : Int32))), .unset, .unset, .unset, .unset, .unset] [(.ref b70), (.ref b70)] t
        refine XS.iconst X70.here hx rfl (hb hby at_105) ?_
        show own_At p e below m T70 106 #[.val (.int p0), .val (.int ((p0 &&& (2147483647 : Int32)) % (3 : Int32))), .unset, .unset, .unset, .unset, .unset] [(.int (0 : Int32)), (.ref b70), (.ref b70)] t
        refine XS.bipush X70.here hx rfl (hb hby at_106) ?_
        show own_At p e below m T70 108 #[.val (.int p0), .val (.int ((p0 &&& (2147483647 : Int32)) % (3 : Int32))), .unset, .unset, .unset, .unset, .unset] [(.int (111 : Int32)), (.int (0 : Int32)), (.ref b70), (.ref b70)] t
        refine st73 _ ?_
        show own_At p e below m T73 109 #[.val (.int p0), .val (.int ((p0 &&& (2147483647 : Int32)) % (3 : Int32))), .unset, .unset, .unset, .unset, .unset] [(.ref b70)] t
        refine XS.dup X73.here hx rfl (hb hby at_109) rfl rfl ?_
        show own_At p e below m T73 110 #[.val (.int p0), .val (.int ((p0 &&& (2147483647 : Int32)) % (3 : Int32))), .unset, .unset, .unset, .unset, .unset] [(.ref b70), (.ref b70)] t
        refine XS.iconst X73.here hx rfl (hb hby at_110) ?_
        show own_At p e below m T73 111 #[.val (.int p0), .val (.int ((p0 &&& (2147483647 : Int32)) % (3 : Int32))), .unset, .unset, .unset, .unset, .unset] [(.int (1 : Int32)), (.ref b70), (.ref b70)] t
        refine XS.bipush X73.here hx rfl (hb hby at_111) ?_
        show own_At p e below m T73 113 #[.val (.int p0), .val (.int ((p0 &&& (2147483647 : Int32)) % (3 : Int32))), .unset, .unset, .unset, .unset, .unset] [(.int (98 : Int32)), (.int (1 : Int32)), (.ref b70), (.ref b70)] t
        refine st76 _ ?_
        show own_At p e below m T76 114 #[.val (.int p0), .val (.int ((p0 &&& (2147483647 : Int32)) % (3 : Int32))), .unset, .unset, .unset, .unset, .unset] [(.ref b70)] t
        refine XS.dup X76.here hx rfl (hb hby at_114) rfl rfl ?_
        show own_At p e below m T76 115 #[.val (.int p0), .val (.int ((p0 &&& (2147483647 : Int32)) % (3 : Int32))), .unset, .unset, .unset, .unset, .unset] [(.ref b70), (.ref b70)] t
        refine XS.iconst X76.here hx rfl (hb hby at_115) ?_
        show own_At p e below m T76 116 #[.val (.int p0), .val (.int ((p0 &&& (2147483647 : Int32)) % (3 : Int32))), .unset, .unset, .unset, .unset, .unset] [(.int (2 : Int32)), (.ref b70), (.ref b70)] t
        refine XS.bipush X76.here hx rfl (hb hby at_116) ?_
        show own_At p e below m T76 118 #[.val (.int p0), .val (.int ((p0 &&& (2147483647 : Int32)) % (3 : Int32))), .unset, .unset, .unset, .unset, .unset] [(.int (106 : Int32)), (.int (2 : Int32)), (.ref b70), (.ref b70)] t
        refine st79 _ ?_
        show own_At p e below m T79 119 #[.val (.int p0), .val (.int ((p0 &&& (2147483647 : Int32)) % (3 : Int32))), .unset, .unset, .unset, .unset, .unset] [(.ref b70)] t
        refine XS.dup X79.here hx rfl (hb hby at_119) rfl rfl ?_
        show own_At p e below m T79 120 #[.val (.int p0), .val (.int ((p0 &&& (2147483647 : Int32)) % (3 : Int32))), .unset, .unset, .unset, .unset, .unset] [(.ref b70), (.ref b70)] t
        refine XS.iconst X79.here hx rfl (hb hby at_120) ?_
        show own_At p e below m T79 121 #[.val (.int p0), .val (.int ((p0 &&& (2147483647 : Int32)) % (3 : Int32))), .unset, .unset, .unset, .unset, .unset] [(.int (3 : Int32)), (.ref b70), (.ref b70)] t
        refine XS.bipush X79.here hx rfl (hb hby at_121) ?_
        show own_At p e below m T79 123 #[.val (.int p0), .val (.int ((p0 &&& (2147483647 : Int32)) % (3 : Int32))), .unset, .unset, .unset, .unset, .unset] [(.int (101 : Int32)), (.int (3 : Int32)), (.ref b70), (.ref b70)] t
        refine st82 _ ?_
        show own_At p e below m T82 124 #[.val (.int p0), .val (.int ((p0 &&& (2147483647 : Int32)) % (3 : Int32))), .unset, .unset, .unset, .unset, .unset] [(.ref b70)] t
        refine XS.dup X82.here hx rfl (hb hby at_124) rfl rfl ?_
        show own_At p e below m T82 125 #[.val (.int p0), .val (.int ((p0 &&& (2147483647 : Int32)) % (3 : Int32))), .unset, .unset, .unset, .unset, .unset] [(.ref b70), (.ref b70)] t
        refine XS.iconst X82.here hx rfl (hb hby at_125) ?_
        show own_At p e below m T82 126 #[.val (.int p0), .val (.int ((p0 &&& (2147483647 : Int32)) % (3 : Int32))), .unset, .unset, .unset, .unset, .unset] [(.int (4 : Int32)), (.ref b70), (.ref b70)] t
        refine XS.bipush X82.here hx rfl (hb hby at_126) ?_
        show own_At p e below m T82 128 #[.val (.int p0), .val (.int ((p0 &&& (2147483647 : Int32)) % (3 : Int32))), .unset, .unset, .unset, .unset, .unset] [(.int (99 : Int32)), (.int (4 : Int32)), (.ref b70), (.ref b70)] t
        refine st85 _ ?_
        show own_At p e below m T85 129 #[.val (.int p0), .val (.int ((p0 &&& (2147483647 : Int32)) % (3 : Int32))), .unset, .unset, .unset, .unset, .unset] [(.ref b70)] t
        refine XS.dup X85.here hx rfl (hb hby at_129) rfl rfl ?_
        show own_At p e below m T85 130 #[.val (.int p0), .val (.int ((p0 &&& (2147483647 : Int32)) % (3 : Int32))), .unset, .unset, .unset, .unset, .unset] [(.ref b70), (.ref b70)] t
        refine XS.iconst X85.here hx rfl (hb hby at_130) ?_
        show own_At p e below m T85 131 #[.val (.int p0), .val (.int ((p0 &&& (2147483647 : Int32)) % (3 : Int32))), .unset, .unset, .unset, .unset, .unset] [(.int (5 : Int32)), (.ref b70), (.ref b70)] t
        refine XS.bipush X85.here hx rfl (hb hby at_131) ?_
        show own_At p e below m T85 133 #[.val (.int p0), .val (.int ((p0 &&& (2147483647 : Int32)) % (3 : Int32))), .unset, .unset, .unset, .unset, .unset] [(.int (116 : Int32)), (.int (5 : Int32)), (.ref b70), (.ref b70)] t
        refine st88 _ ?_
        show own_At p e below m T88 134 #[.val (.int p0), .val (.int ((p0 &&& (2147483647 : Int32)) % (3 : Int32))), .unset, .unset, .unset, .unset, .unset] [(.ref b70)] t
        refine XS.astoreN X88.here hx rfl (hb hby at_134) rfl rfl (l' := #[.val (.int p0), .val (.int ((p0 &&& (2147483647 : Int32)) % (3 : Int32))), .val (.ref b70), .unset, .unset, .unset, .unset]) rfl ?_
        show own_At p e below m T88 135 #[.val (.int p0), .val (.int ((p0 &&& (2147483647 : Int32)) % (3 : Int32))), .val (.ref b70), .unset, .unset, .unset, .unset] [] t
        refine st89 _ ?_
        show own_At p e below m T89 138 #[.val (.int p0), .val (.int ((p0 &&& (2147483647 : Int32)) % (3 : Int32))), .val (.ref b70), .unset, .unset, .unset, .unset] [(.ref a_OBJECT)] t
        refine XS.astoreN X89.here hx rfl (hb hby at_138) rfl rfl (l' := #[.val (.int p0), .val (.int ((p0 &&& (2147483647 : Int32)) % (3 : Int32))), .val (.ref b70), .val (.ref a_OBJECT), .unset, .unset, .unset]) rfl ?_
        show own_At p e below m T89 139 #[.val (.int p0), .val (.int ((p0 &&& (2147483647 : Int32)) % (3 : Int32))), .val (.ref b70), .val (.ref a_OBJECT), .unset, .unset, .unset] [] t
        refine st90 _ ?_
        show own_At p e below m T90 142 #[.val (.int p0), .val (.int ((p0 &&& (2147483647 : Int32)) % (3 : Int32))), .val (.ref b70), .val (.ref a_OBJECT), .unset, .unset, .unset] [(.ref b90)] t
        refine XS.dup X90.here hx rfl (hb hby at_142) rfl rfl ?_
        show own_At p e below m T90 143 #[.val (.int p0), .val (.int ((p0 &&& (2147483647 : Int32)) % (3 : Int32))), .val (.ref b70), .val (.ref a_OBJECT), .unset, .unset, .unset] [(.ref b90), (.ref b90)] t
        refine XS.aloadN X90.here hx rfl (hb hby at_143) rfl rfl ?_
        show own_At p e below m T90 144 #[.val (.int p0), .val (.int ((p0 &&& (2147483647 : Int32)) % (3 : Int32))), .val (.ref b70), .val (.ref a_OBJECT), .unset, .unset, .unset] [(.ref b70), (.ref b90), (.ref b90)] t
        refine st93.trans ?_
        show own_At p e below m T93 147 #[.val (.int p0), .val (.int ((p0 &&& (2147483647 : Int32)) % (3 : Int32))), .val (.ref b70), .val (.ref a_OBJECT), .unset, .unset, .unset] [(.ref b90)] t
        refine XS.astore X93.here hx rfl (hb hby at_147) rfl rfl (l' := #[.val (.int p0), .val (.int ((p0 &&& (2147483647 : Int32)) % (3 : Int32))), .val (.ref b70), .val (.ref a_OBJECT), .val (.ref b90), .unset, .unset]) rfl ?_
        show own_At p e below m T93 149 #[.val (.int p0), .val (.int ((p0 &&& (2147483647 : Int32)) % (3 : Int32))), .val (.ref b70), .val (.ref a_OBJECT), .val (.ref b90), .unset, .unset] [] t
        refine XS.aload X93.here hx rfl (hb hby at_149) rfl rfl ?_
        show own_At p e below m T93 151 #[.val (.int p0), .val (.int ((p0 &&& (2147483647 : Int32)) % (3 : Int32))), .val (.ref b70), .val (.ref a_OBJECT), .val (.ref b90), .unset, .unset] [(.ref b90)] t
        refine st94 _ ?_
        show own_At p e below m T94 154 #[.val (.int p0), .val (.int ((p0 &&& (2147483647 : Int32)) % (3 : Int32))), .val (.ref b70), .val (.ref a_OBJECT), .val (.ref b90), .unset, .unset] [(.ref a_OBJECT)] t
        refine XS.astore X94.here hx rfl (hb hby at_154) rfl rfl (l' := #[.val (.int p0), .val (.int ((p0 &&& (2147483647 : Int32)) % (3 : Int32))), .val (.ref b70), .val (.ref a_OBJECT), .val (.ref b90), .val (.ref a_OBJECT), .unset]) rfl ?_
        show own_At p e below m T94 156 #[.val (.int p0), .val (.int ((p0 &&& (2147483647 : Int32)) % (3 : Int32))), .val (.ref b70), .val (.ref a_OBJECT), .val (.ref b90), .val (.ref a_OBJECT), .unset] [] t
        refine XS.aloadN X94.here hx rfl (hb hby at_156) rfl rfl ?_
        show own_At p e below m T94 157 #[.val (.int p0), .val (.int ((p0 &&& (2147483647 : Int32)) % (3 : Int32))), .val (.ref b70), .val (.ref a_OBJECT), .val (.ref b90), .val (.ref a_OBJECT), .unset] [(.ref a_OBJECT)] t
        refine st95.trans ?_
        show own_At p e below m T95 160 #[.val (.int p0), .val (.int ((p0 &&& (2147483647 : Int32)) % (3 : Int32))), .val (.ref b70), .val (.ref a_OBJECT), .val (.ref b90), .val (.ref a_OBJECT), .unset] [(.ref a_OBJECT_word)] t
        refine st96 _ ?_
        show own_At p e below m T96 163 #[.val (.int p0), .val (.int ((p0 &&& (2147483647 : Int32)) % (3 : Int32))), .val (.ref b70), .val (.ref a_OBJECT), .val (.ref b90), .val (.ref a_OBJECT), .unset] [(.ref a_OBJECT)] t
        refine XS.astore X96.here hx rfl (hb hby at_163) rfl rfl (l' := #[.val (.int p0), .val (.int ((p0 &&& (2147483647 : Int32)) % (3 : Int32))), .val (.ref b70), .val (.ref a_OBJECT), .val (.ref b90), .val (.ref a_OBJECT), .val (.ref a_OBJECT)]) rfl ?_
        show own_At p e below m T96 165 #[.val (.int p0), .val (.int ((p0 &&& (2147483647 : Int32)) % (3 : Int32))), .val (.ref b70), .val (.ref a_OBJECT), .val (.ref b90), .val (.ref a_OBJECT), .val (.ref a_OBJECT)] [] t
        refine XS.aload X96.here hx rfl (hb hby at_165) rfl rfl ?_
        show own_At p e below m T96 167 #[.val (.int p0), .val (.int ((p0 &&& (2147483647 : Int32)) % (3 : Int32))), .val (.ref b70), .val (.ref a_OBJECT), .val (.ref b90), .val (.ref a_OBJECT), .val (.ref a_OBJECT)] [(.ref a_OBJECT)] t
        refine XS.aloadN X96.here hx rfl (hb hby at_167) rfl rfl ?_
        show own_At p e below m T96 168 #[.val (.int p0), .val (.int ((p0 &&& (2147483647 : Int32)) % (3 : Int32))), .val (.ref b70), .val (.ref a_OBJECT), .val (.ref b90), .val (.ref a_OBJECT), .val (.ref a_OBJECT)] [(.ref a_OBJECT), (.ref a_OBJECT)] t
        refine Jvm.RoadKit.acmp (g := (mkF m 168 #[.val (.int p0), .val (.int ((p0 &&& (2147483647 : Int32)) % (3 : Int32))), .val (.ref b70), .val (.ref a_OBJECT), .val (.ref b90), .val (.ref a_OBJECT), .val (.ref a_OBJECT)] [(.ref a_OBJECT), (.ref a_OBJECT)])) X96 hx rfl rfl rfl (pc0 := 168) (pc' := 171) (same := true) rfl (hb hby at_168) rfl (decide_eq_true rfl) (by decide) (by decide) ?_
        show own_At p e below m T96 171 #[.val (.int p0), .val (.int ((p0 &&& (2147483647 : Int32)) % (3 : Int32))), .val (.ref b70), .val (.ref a_OBJECT), .val (.ref b90), .val (.ref a_OBJECT), .val (.ref a_OBJECT)] [] t
        refine XS.aload X96.here hx rfl (hb hby at_171) rfl rfl ?_
        show own_At p e below m T96 173 #[.val (.int p0), .val (.int ((p0 &&& (2147483647 : Int32)) % (3 : Int32))), .val (.ref b70), .val (.ref a_OBJECT), .val (.ref b90), .val (.ref a_OBJECT), .val (.ref a_OBJECT)] [(.ref a_OBJECT)] t
        refine XS.aloadN X96.here hx rfl (hb hby at_173) rfl rfl ?_
        show own_At p e below m T96 174 #[.val (.int p0), .val (.int ((p0 &&& (2147483647 : Int32)) % (3 : Int32))), .val (.ref b70), .val (.ref a_OBJECT), .val (.ref b90), .val (.ref a_OBJECT), .val (.ref a_OBJECT)] [(.ref a_OBJECT), (.ref a_OBJECT)] t
        refine Jvm.RoadKit.acmp (g := (mkF m 174 #[.val (.int p0), .val (.int ((p0 &&& (2147483647 : Int32)) % (3 : Int32))), .val (.ref b70), .val (.ref a_OBJECT), .val (.ref b90), .val (.ref a_OBJECT), .val (.ref a_OBJECT)] [(.ref a_OBJECT), (.ref a_OBJECT)])) X96 hx rfl rfl rfl (pc0 := 174) (pc' := 177) (same := true) rfl (hb hby at_174) rfl (decide_eq_true rfl) (by decide) (by decide) ?_
        show own_At p e below m T96 177 #[.val (.int p0), .val (.int ((p0 &&& (2147483647 : Int32)) % (3 : Int32))), .val (.ref b70), .val (.ref a_OBJECT), .val (.ref b90), .val (.ref a_OBJECT), .val (.ref a_OBJECT)] [] t
        refine XS.iconst X96.here hx rfl (hb hby at_177) ?_
        show own_At p e below m T96 178 #[.val (.int p0), .val (.int ((p0 &&& (2147483647 : Int32)) % (3 : Int32))), .val (.ref b70), .val (.ref a_OBJECT), .val (.ref b90), .val (.ref a_OBJECT), .val (.ref a_OBJECT)] [(.int (1 : Int32))] t
        refine XS.goto X96.here hx rfl (pc0 := 178) (pc' := 182) rfl (hb hby at_178) (by decide) (by decide) ?_
        show own_At p e below m T96 182 #[.val (.int p0), .val (.int ((p0 &&& (2147483647 : Int32)) % (3 : Int32))), .val (.ref b70), .val (.ref a_OBJECT), .val (.ref b90), .val (.ref a_OBJECT), .val (.ref a_OBJECT)] [(.int (1 : Int32))] t
        exact k
      obtain ⟨fs, hr, hrun, hended, hW, hsame⟩ := X96.leave (v := some (.int (1 : Int32))) (fun h => by rw [Bd.returns] at h; cases h)
      refine hNG ⟨_, _, k97 _ ?_, hrun, hended, _, _, rfl, ?_, ⟨_, rfl⟩, hW, hsame.mono (by decide) (by decide)⟩
      · exact retN X96 hx (t := .boolean) Bd.returns (by simp) (hb hby at_182) hr
      · show Q_law Z p0 a_DOMAIN a__VALUES a_PERSON a_OBJECT a_DOMAIN_word a_DOMAIN_word_value a_PERSON_word a_PERSON_word_value a_OBJECT_word a_OBJECT_word_value z_COMPACT_STRINGS r_SIOOBE_FORMATTER h0 n0 _ T96.heap _
        exact ⟨rfl, N96⟩
set_option maxRecDepth 65536 in
set_option maxHeartbeats 40000000 in
theorem comes_1 {Post : Tables → Env → Array Value → State → Outcome → State → Prop} (hpost : ∀ tb e args s v u, (limb_1_1.after args s (.returned v) u = true ∧ limb_1_2.after args s (.returned v) u = true ∧ True) → FrameEnd s (.returned v) u (Jvm.fieldLocs frame_1_writes args s ++ Jvm.arrayLocs frame_1_arrays args s ++ Jvm.staticLocs frame_1_statics s) 24 128 → Post tb e args s (.returned v) u) :
    ArmFor flags0 classFile x code maxLocals ret World_1 tables_1 room_1 Calls_1 rest_1 Pre_1 Post := by
  intro l hfl _ _ p e ha hc hk s m args below hf hA hF happ hP
  obtain ⟨hcalls, hrest, hpre⟩ := hP
  obtain ⟨-, -, -, hnamed, -, -, -, hat⟩ := (Spec.applies_iff hf).mp happ
  obtain ⟨hg, hn⟩ := and_e (Cond.before_iff.mp (show (Jvm.Cond.and given_1 narrow_1).before args s = true from hpre))
  obtain ⟨g0a, g0b⟩ := and_e hg
  obtain ⟨w0, rfl⟩ : ∃ w0 : Value, args = #[w0] := by
    have hs : args.size = 1 := by simpa [Cond.value, given_1] using g0a
    obtain ⟨L⟩ := args
    match L, hs with
    | [w0], _ => exact ⟨w0, rfl⟩
  have hw := fun d (hd : d ∈ tables_1) => atoms_spec (ws := Jvm.Cond.code x code maxLocals ret :: tables_1) hat d (List.mem_cons_of_mem _ hd)
  have hfit : Fit s := fun {y c} hc i hi => by
    obtain ⟨ha, rfl⟩ := Array.getElem?_eq_some_iff.mp hc
    have q := List.all_eq_true.mp ((Array.all_eq_true_iff_forall_mem.mp hF) _ (Array.getElem_mem ha)) i (List.mem_range.mpr hi)
    simpa [Array.getElem?_eq_getElem hi] using q
  obtain ⟨hsets, hown0⟩ := atoms_of _ (rest_1_c_eq ▸ (show rest_1_c.before _ s = true from hrest))
  obtain ⟨i0, ei0⟩ := is_v g0b
  obtain rfl : w0 = (.int i0) := Option.some.inj ei0
  obtain ⟨hn1a, hn1b⟩ := and_e hn
  obtain ⟨hn2a, hn2b⟩ := and_e hn1b
  obtain ⟨hn3a, hn3b⟩ := and_e hn2b
  obtain ⟨hn4a, hn4b⟩ := and_e hn3b
  obtain ⟨hn5a, hn5b⟩ := and_e hn4b
  obtain ⟨hn6a, hn6b⟩ := and_e hn5b
  obtain ⟨hn7a, hn7b⟩ := and_e hn6b
  obtain ⟨hn8a, hn8b⟩ := and_e hn7b
  obtain ⟨hn9a, hn9b⟩ := and_e hn8b
  obtain ⟨hn10a, hn10b⟩ := and_e hn9b
  obtain ⟨hn11a, hn11b⟩ := and_e hn10b
  obtain ⟨hn12a, hn12b⟩ := and_e hn11b
  obtain ⟨hn13a, hn13b⟩ := and_e hn12b
  obtain ⟨hn14a, hn14b⟩ := and_e hn13b
  obtain ⟨hn15a, hn15b⟩ := and_e hn14b
  obtain ⟨hn16a, hn16b⟩ := and_e hn15b
  obtain ⟨hn17a, hn17b⟩ := and_e hn16b
  obtain ⟨hn18a, hn18b⟩ := and_e hn17b
  obtain ⟨hn19a, hn19b⟩ := and_e hn18b
  obtain ⟨hn20a, hn20b⟩ := and_e hn19b
  obtain ⟨hn21a, hn21b⟩ := and_e hn20b
  obtain ⟨hn22a, hn22b⟩ := and_e hn21b
  obtain ⟨hn23a, hn23b⟩ := and_e hn22b
  obtain ⟨hn24a, hn24b⟩ := and_e hn23b
  obtain ⟨hn25a, hn25b⟩ := and_e hn24b
  obtain ⟨hn26a, hn26b⟩ := and_e hn25b
  obtain ⟨hn27a, hn27b⟩ := and_e hn26b
  obtain ⟨hn28a, hn28b⟩ := and_e hn27b
  obtain ⟨hn29a, hn29b⟩ := and_e hn28b
  obtain ⟨hn30a, hn30b⟩ := and_e hn29b
  obtain ⟨hn31a, hn31b⟩ := and_e hn30b
  obtain ⟨hn32a, hn32b⟩ := and_e hn31b
  obtain ⟨hn33a, hn33b⟩ := and_e hn32b
  obtain ⟨hn34a, hn34b⟩ := and_e hn33b
  obtain ⟨hn35a, hn35b⟩ := and_e hn34b
  obtain ⟨hn36a, hn36b⟩ := and_e hn35b
  obtain ⟨hn37a, hn37b⟩ := and_e hn36b
  obtain ⟨hn38a, hn38b⟩ := and_e hn37b
  obtain ⟨hn39a, hn39b⟩ := and_e hn38b
  obtain ⟨hn40a, hn40b⟩ := and_e hn39b
  obtain ⟨hn41a, hn41b⟩ := and_e hn40b
  obtain ⟨a_DOMAIN, v_a_DOMAIN⟩ := exa_v hn1a
  have S_DOMAIN := Sta.start v_a_DOMAIN (Or.inr ⟨(own_w hw 3 rfl), (own_w hw 4 rfl)⟩)
  have E_DOMAIN := Exa.start v_a_DOMAIN hn1a
  obtain ⟨a__VALUES, v_a__VALUES⟩ := arr_v hn2a
  have S__VALUES := Sta.start v_a__VALUES (Or.inr ⟨(own_w hw 3 rfl), (own_w hw 41 rfl)⟩)
  have E__VALUES := Exa.start v_a__VALUES hn3a
  obtain ⟨a_PERSON, v_a_PERSON⟩ := exa_v hn6a
  have S_PERSON := Sta.start v_a_PERSON (Or.inr ⟨(own_w hw 3 rfl), (own_w hw 49 rfl)⟩)
  have E_PERSON := Exa.start v_a_PERSON hn6a
  obtain ⟨a_OBJECT, v_a_OBJECT⟩ := exa_v hn8a
  have S_OBJECT := Sta.start v_a_OBJECT (Or.inr ⟨(own_w hw 3 rfl), (own_w hw 50 rfl)⟩)
  have E_OBJECT := Exa.start v_a_OBJECT hn8a
  obtain ⟨a_DOMAIN_word, v_a_DOMAIN_word⟩ := exa_v hn10a
  have F_DOMAIN_word := Fld.start ((fld_at v_a_DOMAIN).symm.trans v_a_DOMAIN_word)
  have E_DOMAIN_word := Exa.start v_a_DOMAIN_word hn10a
  have F_DOMAIN_word_coder := Fld.start ((fld_at v_a_DOMAIN_word).symm.trans (own_eqI hn11a))
  obtain ⟨a_DOMAIN_word_value, v_a_DOMAIN_word_value⟩ := arr_v hn12a
  have F_DOMAIN_word_value := Fld.start ((fld_at v_a_DOMAIN_word).symm.trans v_a_DOMAIN_word_value)
  obtain ⟨a_PERSON_word, v_a_PERSON_word⟩ := exa_v hn14a
  have F_PERSON_word := Fld.start ((fld_at v_a_PERSON).symm.trans v_a_PERSON_word)
  have E_PERSON_word := Exa.start v_a_PERSON_word hn14a
  have F_PERSON_word_coder := Fld.start ((fld_at v_a_PERSON_word).symm.trans (own_eqI hn15a))
  obtain ⟨a_PERSON_word_value, v_a_PERSON_word_value⟩ := arr_v hn16a
  have F_PERSON_word_value := Fld.start ((fld_at v_a_PERSON_word).symm.trans v_a_PERSON_word_value)
  obtain ⟨a_OBJECT_word, v_a_OBJECT_word⟩ := exa_v hn18a
  have F_OBJECT_word := Fld.start ((fld_at v_a_OBJECT).symm.trans v_a_OBJECT_word)
  have E_OBJECT_word := Exa.start v_a_OBJECT_word hn18a
  have F_OBJECT_word_coder := Fld.start ((fld_at v_a_OBJECT_word).symm.trans (own_eqI hn19a))
  obtain ⟨a_OBJECT_word_value, v_a_OBJECT_word_value⟩ := arr_v hn20a
  have F_OBJECT_word_value := Fld.start ((fld_at v_a_OBJECT_word).symm.trans v_a_OBJECT_word_value)
  have ne_DOMAIN_word_OBJECT_word := own_neR v_a_DOMAIN_word v_a_OBJECT_word hn22a
  have ne_OBJECT_word_PERSON_word := own_neR v_a_OBJECT_word v_a_PERSON_word hn23a
  have ne_DOMAIN_word_PERSON_word := own_neR v_a_DOMAIN_word v_a_PERSON_word hn24a
  obtain ⟨z_COMPACT_STRINGS, v_z_COMPACT_STRINGS⟩ := is_v (Cond.before_iff.mp (hsets _ (List.mem_of_getElem? (i := 1) rfl)))
  have S_COMPACT_STRINGS := Sta.start v_z_COMPACT_STRINGS (Or.inl (hsets _ (List.mem_of_getElem? (i := 0) rfl)))
  have nz_COMPACT_STRINGS := own_neI v_z_COMPACT_STRINGS (Cond.before_iff.mp (hsets _ (List.mem_of_getElem? (i := 2) rfl)))
  obtain ⟨r_SIOOBE_FORMATTER, v_r_SIOOBE_FORMATTER, i_r_SIOOBE_FORMATTER⟩ := isR_v (Cond.before_iff.mp (hsets _ (List.mem_of_getElem? (i := 8) rfl)))
  have S_SIOOBE_FORMATTER := Sta.start v_r_SIOOBE_FORMATTER (Or.inl (hsets _ (List.mem_of_getElem? (i := 7) rfl)))
  have iS_SIOOBE_FORMATTER := i_r_SIOOBE_FORMATTER
  obtain ⟨cc_a__VALUES, cA_a__VALUES⟩ := Arr.start v_a__VALUES hn2a
  have C__VALUES := own_Cln.start (dv := .null) (vs := [(.ref a_DOMAIN), (.ref a_PERSON), (.ref a_OBJECT)]) hfit cA_a__VALUES (own_len v_a__VALUES cA_a__VALUES hn4a) (by decide) rfl ⟨own_elem v_a__VALUES cA_a__VALUES (own_eqR hn5a v_a_DOMAIN) 0 (by decide), own_elem v_a__VALUES cA_a__VALUES (own_eqR hn7a v_a_PERSON) 1 (by decide), own_elem v_a__VALUES cA_a__VALUES (own_eqR hn9a v_a_OBJECT) 2 (by decide), trivial⟩
  obtain ⟨cc_a_DOMAIN_word_value, cA_a_DOMAIN_word_value⟩ := Arr.start v_a_DOMAIN_word_value hn12a
  have C_DOMAIN_word_value := own_Cln.start (dv := (.int (0 : Int32))) (vs := [(.int (100 : Int32)), (.int (111 : Int32)), (.int (109 : Int32)), (.int (97 : Int32)), (.int (105 : Int32)), (.int (110 : Int32))]) hfit cA_a_DOMAIN_word_value (own_len v_a_DOMAIN_word_value cA_a_DOMAIN_word_value hn13a) (by decide) rfl ⟨own_elem v_a_DOMAIN_word_value cA_a_DOMAIN_word_value (own_eqI hn25a) 0 (by decide), own_elem v_a_DOMAIN_word_value cA_a_DOMAIN_word_value (own_eqI hn26a) 1 (by decide), own_elem v_a_DOMAIN_word_value cA_a_DOMAIN_word_value (own_eqI hn27a) 2 (by decide), own_elem v_a_DOMAIN_word_value cA_a_DOMAIN_word_value (own_eqI hn28a) 3 (by decide), own_elem v_a_DOMAIN_word_value cA_a_DOMAIN_word_value (own_eqI hn29a) 4 (by decide), own_elem v_a_DOMAIN_word_value cA_a_DOMAIN_word_value (own_eqI hn30a) 5 (by decide), trivial⟩
  obtain ⟨cc_a_PERSON_word_value, cA_a_PERSON_word_value⟩ := Arr.start v_a_PERSON_word_value hn16a
  have C_PERSON_word_value := own_Cln.start (dv := (.int (0 : Int32))) (vs := [(.int (112 : Int32)), (.int (101 : Int32)), (.int (114 : Int32)), (.int (115 : Int32)), (.int (111 : Int32)), (.int (110 : Int32))]) hfit cA_a_PERSON_word_value (own_len v_a_PERSON_word_value cA_a_PERSON_word_value hn17a) (by decide) rfl ⟨own_elem v_a_PERSON_word_value cA_a_PERSON_word_value (own_eqI hn31a) 0 (by decide), own_elem v_a_PERSON_word_value cA_a_PERSON_word_value (own_eqI hn32a) 1 (by decide), own_elem v_a_PERSON_word_value cA_a_PERSON_word_value (own_eqI hn33a) 2 (by decide), own_elem v_a_PERSON_word_value cA_a_PERSON_word_value (own_eqI hn34a) 3 (by decide), own_elem v_a_PERSON_word_value cA_a_PERSON_word_value (own_eqI hn35a) 4 (by decide), own_elem v_a_PERSON_word_value cA_a_PERSON_word_value (own_eqI hn36a) 5 (by decide), trivial⟩
  obtain ⟨cc_a_OBJECT_word_value, cA_a_OBJECT_word_value⟩ := Arr.start v_a_OBJECT_word_value hn20a
  have C_OBJECT_word_value := own_Cln.start (dv := (.int (0 : Int32))) (vs := [(.int (111 : Int32)), (.int (98 : Int32)), (.int (106 : Int32)), (.int (101 : Int32)), (.int (99 : Int32)), (.int (116 : Int32))]) hfit cA_a_OBJECT_word_value (own_len v_a_OBJECT_word_value cA_a_OBJECT_word_value hn21a) (by decide) rfl ⟨own_elem v_a_OBJECT_word_value cA_a_OBJECT_word_value (own_eqI hn37a) 0 (by decide), own_elem v_a_OBJECT_word_value cA_a_OBJECT_word_value (own_eqI hn38a) 1 (by decide), own_elem v_a_OBJECT_word_value cA_a_OBJECT_word_value (own_eqI hn39a) 2 (by decide), own_elem v_a_OBJECT_word_value cA_a_OBJECT_word_value (own_eqI hn40a) 3 (by decide), own_elem v_a_OBJECT_word_value cA_a_OBJECT_word_value (own_eqI hn41a) 4 (by decide), own_elem v_a_OBJECT_word_value cA_a_OBJECT_word_value (own_eqI hn41b) 5 (by decide), trivial⟩
  obtain ⟨n, o, h1, h2, h3, _, L, rfl, ⟨rfl, N⟩, hq⟩ := rm_law l s _ hw tables_1 i0 a_DOMAIN a__VALUES a_PERSON a_OBJECT a_DOMAIN_word a_DOMAIN_word_value a_PERSON_word a_PERSON_word_value a_OBJECT_word a_OBJECT_word_value z_COMPACT_STRINGS r_SIOOBE_FORMATTER s.heap s.heap.size (Old.start s) ⟨S_DOMAIN, E_DOMAIN, S__VALUES, E__VALUES, S_PERSON, E_PERSON, S_OBJECT, E_OBJECT, F_DOMAIN_word, E_DOMAIN_word, F_DOMAIN_word_coder, F_DOMAIN_word_value, F_PERSON_word, E_PERSON_word, F_PERSON_word_coder, F_PERSON_word_value, F_OBJECT_word, E_OBJECT_word, F_OBJECT_word_coder, F_OBJECT_word_value, ne_DOMAIN_word_OBJECT_word, ne_OBJECT_word_PERSON_word, ne_DOMAIN_word_PERSON_word, S_COMPACT_STRINGS, nz_COMPACT_STRINGS, S_SIOOBE_FORMATTER, iS_SIOOBE_FORMATTER, C__VALUES, C_DOMAIN_word_value, C_PERSON_word_value, C_OBJECT_word_value⟩  p e ha hc hk s m _ below hf ((Spec.applies_iff_loose hf).mp happ).1 ⟨rfl, State.Warmed39.refl s, rfl⟩ trivial
  refine ⟨n, _, h1, h2, h3, hpost _ _ _ _ _ _ ⟨Cond.after_iff.mpr rfl, Cond.after_iff.mpr (eq_i res_at (Term.int_eval (1)) rfl), trivial⟩ ⟨hq.1, hq.2.1, (hq.2.2.sift fun y hy => Or.inr (N y hy)).mono (by decide) (by decide)⟩⟩
theorem main_1_1 : Claimed_1_1 := comes_1 fun _ _ _ _ _ _ h hF => ⟨h.1, hF⟩
theorem main_1_2 : Claimed_1_2 := comes_1 fun _ _ _ _ _ _ h hF => ⟨h.2.1, hF⟩
end Jvm.Pilot.@@N@@
namespace Jvm.Pilot.@@N@@
open Jvm Jvm.ClassFile Sem Op Lib Jvm.Free Jvm.Stand Jvm.Pilot.@@N@@.Jvm.D
/-! MADE BY PROGRAM (witnessworld.py) out of the Statement's table words and the real class files: 22 classes; the members and pool entries that the words name. The judged class is class 1, her method 1. -/
namespace start1
open Jvm.ClassFile
def u (s : String) : CpInfo := .utf8 (stringToUtf16 s)
/-- a pool by its gaps: so many unusable entries, then the entry; so many at the end -/
def gap : Nat → List CpInfo → List CpInfo
  | 0, r => r
  | n + 1, r => .unusable :: gap n r
def poolList (es : List (Nat × CpInfo)) (last : Nat) : List CpInfo := es.foldr (fun e r => gap e.1 (e.2 :: r)) (gap last [])
def pool (es : List (Nat × CpInfo)) (last : Nat) : Array CpInfo := ⟨poolList es last⟩
def fileOf (pool : Array CpInfo) (this : Nat) (attrs : Array Attribute := #[]) (ms : Array MethodInfo := #[]) (fl : Nat := 33) (sup : Nat := 0) (ifs : Array Nat := #[]) (fds : Array FieldInfo := #[]) : ClassFile where
  minorVersion := 0
  majorVersion := 65
  constantPool := pool
  accessFlags := fl
  thisClass := this
  superClass := sup
  interfaces := ifs
  fields := fds
  methods := ms
  attributes := attrs
def plain (name : String) (sup : Option ClassId) : Class where
  name := name
  kind := .ordinary
  loader := none
  accessFlags := 33
  super := sup
  interfaces := #[]
  cf := none
  fields := #[]
  methods := #[]
  instanceTypes := #[]
  staticTypes := #[]
  resolved := #[]
  callSites := []
  init := .initialized
  statics := none
  mirror := none

def pool0 : Array CpInfo := pool [(5, u "<init>"), (0, u "()V"), (1, .class_ 10), (1, u "java/lang/Object"), (85, u "clone"), (0, u "()Ljava/lang/Object;")] 26

def k0c0 : Code := { maxStack := 0, maxLocals := 1, code := object_method_1_code, exceptionTable := #[], attributes := #[] }
def k0m0 : Method := { name := "<init>", desc := "()V", sig := { parameters := [], returnType := none }, accessFlags := 1, code := some k0c0 }
def k0m1 : Method := { name := "clone", desc := "()Ljava/lang/Object;", sig := { parameters := [], returnType := some (.object "java/lang/Object") }, accessFlags := 260, code := none }
/-- java/lang/Object -/
def k0 : Class := { plain "java/lang/Object" none with
  accessFlags := 33
  interfaces := #[]
  cf := some (fileOf pool0 8 #[] #[{ accessFlags := 1, nameIndex := 5, descriptorIndex := 6, attributes := #[] }, { accessFlags := 260, nameIndex := 96, descriptorIndex := 97, attributes := #[] }] 33 0 #[] #[])
  fields := #[]
  methods := #[k0m0, k0m1]
  instanceTypes := #[]
  staticTypes := #[]
  resolved := Array.replicate 124 none
  statics := none }

def pool1 : Array CpInfo := pool [(2, .class_ 4), (1, u "java/lang/Object"), (0, u "<init>"), (0, u "()V"), (0, .integer 2147483647), (0, .fieldref 9 10), (0, .class_ 11), (0, .nameAndType 12 13), (0, u "com/example/scoped_authority/scopedauthority/Kind"), (0, u "DOMAIN"), (0, u "Lcom/example/scoped_authority/scopedauthority/Kind;"), (0, .fieldref 9 15), (0, .nameAndType 16 13), (0, u "PERSON"), (0, .fieldref 9 18), (0, .nameAndType 19 13), (0, u "OBJECT"), (0, .class_ 21), (0, u "java/lang/String"), (0, .methodref 20 23), (0, .nameAndType 5 24), (0, u "([C)V"), (0, .methodref 9 26), (0, .nameAndType 27 28), (0, u "fromWord"), (0, u "(Ljava/lang/String;)Lcom/example/scoped_authority/scopedauthority/Kind;"), (0, .methodref 9 30), (0, .nameAndType 31 32), (0, u "word"), (0, u "()Ljava/lang/String;"), (0, .class_ 34), (0, u "com/example/scoped_authority/scopedauthority/KindFromWordPinLaw"), (2, u "law"), (0, u "(I)Z")] 5

def k1m0 : Method := { name := "<init>", desc := "()V", sig := { parameters := [], returnType := none }, accessFlags := 1, code := none }
def k1c1 : Code := { maxStack := 4, maxLocals := 7, code := code, exceptionTable := #[], attributes := #[] }
def k1m1 : Method := { name := "law", desc := "(I)Z", sig := { parameters := [.int], returnType := some .boolean }, accessFlags := 9, code := some k1c1 }
/-- com/example/scoped_authority/scopedauthority/KindFromWordPinLaw -/
def k1 : Class := { plain "com/example/scoped_authority/scopedauthority/KindFromWordPinLaw" (some 0) with
  accessFlags := 49
  interfaces := #[]
  cf := some (fileOf pool1 33 #[] #[{ accessFlags := 1, nameIndex := 5, descriptorIndex := 6, attributes := #[] }, { accessFlags := 9, nameIndex := 37, descriptorIndex := 38, attributes := #[] }] 49 2 #[] #[])
  fields := #[]
  methods := #[k1m0, k1m1]
  instanceTypes := #[]
  staticTypes := #[]
  resolved := Array.replicate 44 none
  statics := none }

def pool2 : Array CpInfo := pool [(1, .class_ 2), (0, u "java/lang/constant/Constable"), (0, .class_ 4), (0, u "java/lang/Object")] 6

/-- java/lang/constant/Constable -/
def k2 : Class := { plain "java/lang/constant/Constable" (some 0) with
  accessFlags := 1537
  interfaces := #[]
  cf := some (fileOf pool2 1 #[] #[] 1537 3 #[] #[])
  fields := #[]
  methods := #[]
  instanceTypes := #[]
  staticTypes := #[]
  resolved := Array.replicate 11 none
  statics := none }

def pool3 : Array CpInfo := pool [(1, .class_ 2), (0, u "java/lang/Comparable"), (0, .class_ 4), (0, u "java/lang/Object")] 7

/-- java/lang/Comparable -/
def k3 : Class := { plain "java/lang/Comparable" (some 0) with
  accessFlags := 1537
  interfaces := #[]
  cf := some (fileOf pool3 1 #[] #[] 1537 3 #[] #[])
  fields := #[]
  methods := #[]
  instanceTypes := #[]
  staticTypes := #[]
  resolved := Array.replicate 12 none
  statics := none }

def pool4 : Array CpInfo := pool [(1, .class_ 2), (0, u "java/io/Serializable"), (0, .class_ 4), (0, u "java/lang/Object")] 2

/-- java/io/Serializable -/
def k4 : Class := { plain "java/io/Serializable" (some 0) with
  accessFlags := 1537
  interfaces := #[]
  cf := some (fileOf pool4 1 #[] #[] 1537 3 #[] #[])
  fields := #[]
  methods := #[]
  instanceTypes := #[]
  staticTypes := #[]
  resolved := Array.replicate 7 none
  statics := none }

def pool5 : Array CpInfo := pool [(2, .class_ 4), (1, u "java/lang/Enum"), (0, u "name"), (0, u "Ljava/lang/String;"), (2, u "ordinal"), (0, u "I"), (1, .class_ 14), (1, u "java/lang/Object"), (4, u "hash"), (86, .class_ 108), (1, u "java/lang/Enum$EnumDesc"), (2, .class_ 112), (0, u "java/lang/constant/Constable"), (0, .class_ 114), (0, u "java/lang/Comparable"), (0, .class_ 116), (0, u "java/io/Serializable")] 87

/-- java/lang/Enum -/
def k5 : Class := { plain "java/lang/Enum" (some 0) with
  accessFlags := 1057
  interfaces := #[2, 3, 4]
  cf := some (fileOf pool5 2 #[.nestMembers #[106]] #[] 1057 12 #[111, 113, 115] #[{ accessFlags := 18, nameIndex := 5, descriptorIndex := 6, attributes := #[] }, { accessFlags := 18, nameIndex := 9, descriptorIndex := 10, attributes := #[] }, { accessFlags := 2, nameIndex := 19, descriptorIndex := 10, attributes := #[] }])
  fields := #[{ name := "name", type := (.object "java/lang/String"), accessFlags := 18, slot := 0, constantValue := 0 }, { name := "ordinal", type := .int, accessFlags := 18, slot := 1, constantValue := 0 }, { name := "hash", type := .int, accessFlags := 2, slot := 2, constantValue := 0 }]
  methods := #[]
  instanceTypes := #[(.object "java/lang/String"), .int, .int]
  staticTypes := #[]
  resolved := Array.replicate 204 none
  statics := none }

def pool6 : Array CpInfo := pool [(1, .class_ 2), (0, u "com/example/scoped_authority/scopedauthority/Kind"), (2, u "DOMAIN"), (0, u "Lcom/example/scoped_authority/scopedauthority/Kind;"), (2, u "PERSON"), (2, u "OBJECT"), (0, .fieldref 1 14), (0, .nameAndType 15 16), (0, u "$VALUES"), (0, u "[Lcom/example/scoped_authority/scopedauthority/Kind;"), (0, .methodref 18 19), (0, .class_ 16), (0, .nameAndType 20 21), (0, u "clone"), (0, u "()Ljava/lang/Object;"), (1, .class_ 25), (1, u "java/lang/Enum"), (6, .fieldref 1 33), (0, .nameAndType 34 35), (0, u "word"), (0, u "Ljava/lang/String;"), (2, u "article"), (0, .methodref 1 40), (0, .nameAndType 41 42), (0, u "values"), (0, u "()[Lcom/example/scoped_authority/scopedauthority/Kind;"), (0, .methodref 44 45), (0, .class_ 46), (0, .nameAndType 47 48), (0, u "java/lang/String"), (0, u "equals"), (0, u "(Ljava/lang/Object;)Z"), (32, u "(Ljava/lang/String;)Lcom/example/scoped_authority/scopedauthority/Kind;"), (3, u "fromWord"), (1, u "()Ljava/lang/String;")] 21

def k6c0 : Code := { maxStack := 1, maxLocals := 0, code := prog_32_method_1_code, exceptionTable := #[], attributes := #[] }
def k6m0 : Method := { name := "values", desc := "()[Lcom/example/scoped_authority/scopedauthority/Kind;", sig := { parameters := [], returnType := some (.array (.object "com/example/scoped_authority/scopedauthority/Kind")) }, accessFlags := 9, code := some k6c0 }
def k6c1 : Code := { maxStack := 3, maxLocals := 5, code := prog_32_method_4_code, exceptionTable := #[], attributes := #[] }
def k6m1 : Method := { name := "fromWord", desc := "(Ljava/lang/String;)Lcom/example/scoped_authority/scopedauthority/Kind;", sig := { parameters := [(.object "java/lang/String")], returnType := some (.object "com/example/scoped_authority/scopedauthority/Kind") }, accessFlags := 9, code := some k6c1 }
def k6c2 : Code := { maxStack := 1, maxLocals := 1, code := prog_32_method_5_code, exceptionTable := #[], attributes := #[] }
def k6m2 : Method := { name := "word", desc := "()Ljava/lang/String;", sig := { parameters := [], returnType := some (.object "java/lang/String") }, accessFlags := 1, code := some k6c2 }
/-- com/example/scoped_authority/scopedauthority/Kind -/
def k6 : Class := { plain "com/example/scoped_authority/scopedauthority/Kind" (some 5) with
  accessFlags := 16433
  interfaces := #[]
  cf := some (fileOf pool6 1 #[] #[{ accessFlags := 9, nameIndex := 41, descriptorIndex := 42, attributes := #[] }, { accessFlags := 9, nameIndex := 85, descriptorIndex := 81, attributes := #[] }, { accessFlags := 1, nameIndex := 34, descriptorIndex := 87, attributes := #[] }] 16433 23 #[] #[{ accessFlags := 16409, nameIndex := 5, descriptorIndex := 6, attributes := #[] }, { accessFlags := 16409, nameIndex := 9, descriptorIndex := 6, attributes := #[] }, { accessFlags := 16409, nameIndex := 12, descriptorIndex := 6, attributes := #[] }, { accessFlags := 18, nameIndex := 34, descriptorIndex := 35, attributes := #[] }, { accessFlags := 18, nameIndex := 38, descriptorIndex := 35, attributes := #[] }, { accessFlags := 4122, nameIndex := 15, descriptorIndex := 16, attributes := #[] }])
  fields := #[{ name := "DOMAIN", type := (.object "com/example/scoped_authority/scopedauthority/Kind"), accessFlags := 16409, slot := 0, constantValue := 0 }, { name := "PERSON", type := (.object "com/example/scoped_authority/scopedauthority/Kind"), accessFlags := 16409, slot := 1, constantValue := 0 }, { name := "OBJECT", type := (.object "com/example/scoped_authority/scopedauthority/Kind"), accessFlags := 16409, slot := 2, constantValue := 0 }, { name := "word", type := (.object "java/lang/String"), accessFlags := 18, slot := 3, constantValue := 0 }, { name := "article", type := (.object "java/lang/String"), accessFlags := 18, slot := 4, constantValue := 0 }, { name := "$VALUES", type := (.array (.object "com/example/scoped_authority/scopedauthority/Kind")), accessFlags := 4122, slot := 3, constantValue := 0 }]
  methods := #[k6m0, k6m1, k6m2]
  instanceTypes := #[(.object "java/lang/String"), .int, .int, (.object "java/lang/String"), (.object "java/lang/String")]
  staticTypes := #[(.object "com/example/scoped_authority/scopedauthority/Kind"), (.object "com/example/scoped_authority/scopedauthority/Kind"), (.object "com/example/scoped_authority/scopedauthority/Kind"), (.array (.object "com/example/scoped_authority/scopedauthority/Kind"))]
  resolved := Array.replicate 109 none
  statics := some 0 }

def pool7 : Array CpInfo := pool [(2, .class_ 4), (1, u "java/lang/CharSequence"), (42, .class_ 48), (0, u "java/lang/CharSequence$1CodePointIterator"), (10, .class_ 60), (0, u "java/lang/CharSequence$1CharIterator"), (5, .class_ 67), (0, u "java/lang/Object")] 63

/-- java/lang/CharSequence -/
def k7 : Class := { plain "java/lang/CharSequence" (some 0) with
  accessFlags := 1537
  interfaces := #[]
  cf := some (fileOf pool7 2 #[.nestMembers #[47, 59]] #[] 1537 66 #[] #[])
  fields := #[]
  methods := #[]
  instanceTypes := #[]
  staticTypes := #[]
  resolved := Array.replicate 131 none
  statics := none }

def pool8 : Array CpInfo := pool [(1, .class_ 2), (0, u "java/lang/constant/ConstantDesc"), (0, .class_ 4), (0, u "java/lang/Object")] 32

/-- java/lang/constant/ConstantDesc -/
def k8 : Class := { plain "java/lang/constant/ConstantDesc" (some 0) with
  accessFlags := 1537
  interfaces := #[]
  cf := some (fileOf pool8 1 #[] #[] 1537 3 #[] #[])
  fields := #[]
  methods := #[]
  instanceTypes := #[]
  staticTypes := #[]
  resolved := Array.replicate 37 none
  statics := none }

def pool9 : Array CpInfo := pool [(1, .methodref 2 3), (0, .class_ 4), (0, .nameAndType 5 6), (0, u "java/lang/Object"), (0, u "<init>"), (0, u "()V"), (2, .fieldref 10 11), (0, .class_ 12), (0, .nameAndType 13 14), (0, u "java/lang/String"), (0, u "value"), (0, u "[B"), (0, .fieldref 10 16), (0, .nameAndType 17 18), (0, u "coder"), (0, u "B"), (2, u "hash"), (0, u "I"), (2, u "hashIsZero"), (0, u "Z"), (0, .methodref 10 28), (0, .nameAndType 5 29), (0, u "([CIILjava/lang/Void;)V"), (8, .fieldref 10 39), (0, .nameAndType 40 26), (0, u "COMPACT_STRINGS"), (1, .class_ 44), (1, u "java/lang/StringUTF16"), (0, u "compress"), (1, .methodref 42 48), (0, .nameAndType 49 50), (0, u "coderFromArrayLen"), (0, u "([BI)B"), (56, .class_ 109), (1, u "java/lang/StringLatin1"), (67, .methodref 42 178), (0, .nameAndType 45 179), (0, u "([CII)[B"), (361, .methodref 107 542), (0, .nameAndType 543 544), (0, u "equals"), (0, u "([B[B)Z"), (28, u "(Ljava/lang/Object;)Z"), (1, .class_ 576), (0, u "java/lang/CharSequence"), (22, u "CASE_INSENSITIVE_ORDER"), (0, u "Ljava/util/Comparator;"), (409, u "([C)V"), (90, u "serialPersistentFields"), (0, u "[Ljava/io/ObjectStreamField;"), (0, .class_ 1104), (0, u "java/lang/String$CaseInsensitiveComparator"), (1, .class_ 1107), (0, u "java/io/Serializable"), (0, .class_ 1109), (0, u "java/lang/Comparable"), (0, .class_ 1111), (0, u "java/lang/constant/Constable"), (0, .class_ 1113), (0, u "java/lang/constant/ConstantDesc"), (2, u "serialVersionUID"), (0, u "J"), (3, u "REPL"), (0, u "C"), (2, u "LATIN1"), (1, u "UTF16")] 323

def k9m0 : Method := { name := "<init>", desc := "()V", sig := { parameters := [], returnType := none }, accessFlags := 1, code := none }
def k9c1 : Code := { maxStack := 5, maxLocals := 2, code := jdk_42_method_3_code, exceptionTable := #[], attributes := #[] }
def k9m1 : Method := { name := "<init>", desc := "([C)V", sig := { parameters := [(.array .char)], returnType := none }, accessFlags := 1, code := some k9c1 }
def k9c2 : Code := { maxStack := 2, maxLocals := 3, code := jdk_42_method_66_code, exceptionTable := #[], attributes := #[] }
def k9m2 : Method := { name := "equals", desc := "(Ljava/lang/Object;)Z", sig := { parameters := [(.object "java/lang/Object")], returnType := some .boolean }, accessFlags := 1, code := some k9c2 }
def k9c3 : Code := { maxStack := 4, maxLocals := 6, code := jdk_42_method_149_code, exceptionTable := #[], attributes := #[] }
def k9m3 : Method := { name := "<init>", desc := "([CIILjava/lang/Void;)V", sig := { parameters := [(.array .char), .int, .int, (.object "java/lang/Void")], returnType := none }, accessFlags := 2, code := some k9c3 }
/-- java/lang/String -/
def k9 : Class := { plain "java/lang/String" (some 0) with
  accessFlags := 49
  interfaces := #[4, 3, 7, 2, 8]
  cf := some (fileOf pool9 10 #[.nestMembers #[1103]] #[{ accessFlags := 1, nameIndex := 5, descriptorIndex := 6, attributes := #[] }, { accessFlags := 1, nameIndex := 5, descriptorIndex := 1010, attributes := #[] }, { accessFlags := 1, nameIndex := 543, descriptorIndex := 573, attributes := #[] }, { accessFlags := 2, nameIndex := 5, descriptorIndex := 29, attributes := #[] }] 49 2 #[1106, 1108, 575, 1110, 1112] #[{ accessFlags := 18, nameIndex := 13, descriptorIndex := 14, attributes := #[] }, { accessFlags := 18, nameIndex := 17, descriptorIndex := 18, attributes := #[] }, { accessFlags := 2, nameIndex := 21, descriptorIndex := 22, attributes := #[] }, { accessFlags := 2, nameIndex := 25, descriptorIndex := 26, attributes := #[] }, { accessFlags := 26, nameIndex := 1116, descriptorIndex := 1117, attributes := #[] }, { accessFlags := 24, nameIndex := 40, descriptorIndex := 26, attributes := #[] }, { accessFlags := 26, nameIndex := 1101, descriptorIndex := 1102, attributes := #[] }, { accessFlags := 26, nameIndex := 1121, descriptorIndex := 1122, attributes := #[] }, { accessFlags := 25, nameIndex := 599, descriptorIndex := 600, attributes := #[] }, { accessFlags := 24, nameIndex := 1125, descriptorIndex := 18, attributes := #[] }, { accessFlags := 24, nameIndex := 1127, descriptorIndex := 18, attributes := #[] }])
  fields := #[{ name := "value", type := (.array .byte), accessFlags := 18, slot := 0, constantValue := 0 }, { name := "coder", type := .byte, accessFlags := 18, slot := 1, constantValue := 0 }, { name := "hash", type := .int, accessFlags := 2, slot := 2, constantValue := 0 }, { name := "hashIsZero", type := .boolean, accessFlags := 2, slot := 3, constantValue := 0 }, { name := "serialVersionUID", type := .long, accessFlags := 26, slot := 0, constantValue := 0 }, { name := "COMPACT_STRINGS", type := .boolean, accessFlags := 24, slot := 1, constantValue := 0 }, { name := "serialPersistentFields", type := (.array (.object "java/io/ObjectStreamField")), accessFlags := 26, slot := 2, constantValue := 0 }, { name := "REPL", type := .char, accessFlags := 26, slot := 3, constantValue := 0 }, { name := "CASE_INSENSITIVE_ORDER", type := (.object "java/util/Comparator"), accessFlags := 25, slot := 4, constantValue := 0 }, { name := "LATIN1", type := .byte, accessFlags := 24, slot := 5, constantValue := 0 }, { name := "UTF16", type := .byte, accessFlags := 24, slot := 6, constantValue := 0 }]
  methods := #[k9m0, k9m1, k9m2, k9m3]
  instanceTypes := #[(.array .byte), .byte, .int, .boolean]
  staticTypes := #[.long, .boolean, (.array (.object "java/io/ObjectStreamField")), .char, (.object "java/util/Comparator"), .byte, .byte]
  resolved := Array.replicate 1451 none
  statics := some 1 }

def pool10 : Array CpInfo := pool [(6, .class_ 8), (1, u "java/lang/Object"), (0, u "<init>"), (0, u "()V"), (1, .class_ 14), (1, u "java/lang/StringUTF16"), (31, u "$assertionsDisabled"), (0, u "Z"), (13, u "HI_BYTE_SHIFT"), (0, u "I"), (2, u "LO_BYTE_SHIFT"), (49, .methodref 12 116), (0, .nameAndType 117 118), (0, u "compress"), (0, u "([CI[BII)I"), (3, u "([CII)[B"), (138, u "coderFromArrayLen"), (0, u "([BI)B"), (106, .class_ 371), (1, u "java/lang/StringUTF16$LinesSpliterator"), (58, u "MAX_LENGTH"), (196, .class_ 628), (0, u "java/lang/StringUTF16$CodePointsSpliterator"), (0, .class_ 630), (0, u "java/lang/StringUTF16$CharsSpliterator")] 4

def k10m0 : Method := { name := "<init>", desc := "()V", sig := { parameters := [], returnType := none }, accessFlags := 0, code := none }
def k10c1 : Code := { maxStack := 2, maxLocals := 2, code := jdk_52_method_15_code, exceptionTable := #[], attributes := #[] }
def k10m1 : Method := { name := "coderFromArrayLen", desc := "([BI)B", sig := { parameters := [(.array .byte), .int], returnType := some .byte }, accessFlags := 8, code := some k10c1 }
def k10c2 : Code := { maxStack := 5, maxLocals := 6, code := jdk_52_method_16_code, exceptionTable := #[], attributes := #[] }
def k10m2 : Method := { name := "compress", desc := "([CII)[B", sig := { parameters := [(.array .char), .int, .int], returnType := some (.array .byte) }, accessFlags := 9, code := some k10c2 }
def k10c3 : Code := { maxStack := 3, maxLocals := 7, code := jdk_52_method_21_code, exceptionTable := #[], attributes := #[] }
def k10m3 : Method := { name := "compress", desc := "([CI[BII)I", sig := { parameters := [(.array .char), .int, (.array .byte), .int, .int], returnType := some .int }, accessFlags := 9, code := some k10c3 }
/-- java/lang/StringUTF16 -/
def k10 : Class := { plain "java/lang/StringUTF16" (some 0) with
  accessFlags := 48
  interfaces := #[]
  cf := some (fileOf pool10 12 #[.nestMembers #[627, 629, 369]] #[{ accessFlags := 0, nameIndex := 9, descriptorIndex := 10, attributes := #[] }, { accessFlags := 8, nameIndex := 261, descriptorIndex := 262, attributes := #[] }, { accessFlags := 9, nameIndex := 117, descriptorIndex := 122, attributes := #[] }, { accessFlags := 9, nameIndex := 117, descriptorIndex := 118, attributes := #[] }] 48 6 #[] #[{ accessFlags := 26, nameIndex := 61, descriptorIndex := 62, attributes := #[] }, { accessFlags := 26, nameIndex := 65, descriptorIndex := 62, attributes := #[] }, { accessFlags := 24, nameIndex := 430, descriptorIndex := 62, attributes := #[] }, { accessFlags := 4120, nameIndex := 46, descriptorIndex := 47, attributes := #[] }])
  fields := #[{ name := "HI_BYTE_SHIFT", type := .int, accessFlags := 26, slot := 0, constantValue := 0 }, { name := "LO_BYTE_SHIFT", type := .int, accessFlags := 26, slot := 1, constantValue := 0 }, { name := "MAX_LENGTH", type := .int, accessFlags := 24, slot := 2, constantValue := 0 }, { name := "$assertionsDisabled", type := .boolean, accessFlags := 4120, slot := 3, constantValue := 0 }]
  methods := #[k10m0, k10m1, k10m2, k10m3]
  instanceTypes := #[]
  staticTypes := #[.int, .int, .int, .boolean]
  resolved := Array.replicate 635 none
  statics := none }

def pool11 : Array CpInfo := pool [(1, .class_ 2), (0, u "java/lang/Cloneable"), (0, .class_ 4), (0, u "java/lang/Object")] 2

/-- java/lang/Cloneable -/
def k11 : Class := { plain "java/lang/Cloneable" (some 0) with
  accessFlags := 1537
  interfaces := #[]
  cf := some (fileOf pool11 1 #[] #[] 1537 3 #[] #[])
  fields := #[]
  methods := #[]
  instanceTypes := #[]
  staticTypes := #[]
  resolved := Array.replicate 7 none
  statics := none }

def pool12 : Array CpInfo := pool [(4, .class_ 6), (1, u "java/lang/Object"), (0, u "<init>"), (0, u "()V"), (5, .class_ 16), (1, u "java/lang/StringLatin1"), (104, u "$assertionsDisabled"), (0, u "Z"), (98, .class_ 223), (1, u "java/lang/StringLatin1$LinesSpliterator"), (57, u "equals"), (0, u "([B[B)Z"), (107, .class_ 391), (0, u "java/lang/StringLatin1$CharsSpliterator")] 3

def k12m0 : Method := { name := "<init>", desc := "()V", sig := { parameters := [], returnType := none }, accessFlags := 0, code := none }
def k12c1 : Code := { maxStack := 3, maxLocals := 3, code := jdk_43_method_13_code, exceptionTable := #[], attributes := #[] }
def k12m1 : Method := { name := "equals", desc := "([B[B)Z", sig := { parameters := [(.array .byte), (.array .byte)], returnType := some .boolean }, accessFlags := 9, code := some k12c1 }
/-- java/lang/StringLatin1 -/
def k12 : Class := { plain "java/lang/StringLatin1" (some 0) with
  accessFlags := 48
  interfaces := #[]
  cf := some (fileOf pool12 14 #[.nestMembers #[390, 221]] #[{ accessFlags := 0, nameIndex := 7, descriptorIndex := 8, attributes := #[] }, { accessFlags := 9, nameIndex := 281, descriptorIndex := 282, attributes := #[] }] 48 4 #[] #[{ accessFlags := 4120, nameIndex := 121, descriptorIndex := 122, attributes := #[] }])
  fields := #[{ name := "$assertionsDisabled", type := .boolean, accessFlags := 4120, slot := 0, constantValue := 0 }]
  methods := #[k12m0, k12m1]
  instanceTypes := #[]
  staticTypes := #[.boolean]
  resolved := Array.replicate 395 none
  statics := none }

def pool13 : Array CpInfo := pool [(2, .class_ 4), (1, u "java/lang/Object"), (0, u "<init>"), (0, u "()V"), (17, .class_ 26), (1, u "jdk/internal/util/Preconditions"), (28, .class_ 56), (0, u "jdk/internal/util/Preconditions$4"), (57, .class_ 115), (0, u "jdk/internal/util/Preconditions$1"), (7, u "SIOOBE_FORMATTER"), (0, u "Ljava/util/function/BiFunction;"), (0, .class_ 126), (0, u "jdk/internal/util/Preconditions$2"), (3, u "AIOOBE_FORMATTER"), (0, .class_ 132), (0, u "jdk/internal/util/Preconditions$3"), (3, u "IOOBE_FORMATTER")] 57

def k13m0 : Method := { name := "<init>", desc := "()V", sig := { parameters := [], returnType := none }, accessFlags := 1, code := none }
/-- jdk/internal/util/Preconditions -/
def k13 : Class := { plain "jdk/internal/util/Preconditions" (some 0) with
  accessFlags := 33
  interfaces := #[]
  cf := some (fileOf pool13 24 #[.nestMembers #[55, 131, 125, 114]] #[{ accessFlags := 1, nameIndex := 5, descriptorIndex := 6, attributes := #[] }] 33 2 #[] #[{ accessFlags := 25, nameIndex := 123, descriptorIndex := 124, attributes := #[] }, { accessFlags := 25, nameIndex := 130, descriptorIndex := 124, attributes := #[] }, { accessFlags := 25, nameIndex := 136, descriptorIndex := 124, attributes := #[] }])
  fields := #[{ name := "SIOOBE_FORMATTER", type := (.object "java/util/function/BiFunction"), accessFlags := 25, slot := 0, constantValue := 0 }, { name := "AIOOBE_FORMATTER", type := (.object "java/util/function/BiFunction"), accessFlags := 25, slot := 1, constantValue := 0 }, { name := "IOOBE_FORMATTER", type := (.object "java/util/function/BiFunction"), accessFlags := 25, slot := 2, constantValue := 0 }]
  methods := #[k13m0]
  instanceTypes := #[]
  staticTypes := #[(.object "java/util/function/BiFunction"), (.object "java/util/function/BiFunction"), (.object "java/util/function/BiFunction")]
  resolved := Array.replicate 194 none
  statics := some 2 }

def pool14 : Array CpInfo := pool [(9, u "<init>"), (6, .class_ 18), (1, u "java/lang/Object"), (0, u "()V"), (1, .class_ 23), (1, u "jdk/internal/util/ArraysSupport"), (0, u "LOG2_ARRAY_LONG_INDEX_SCALE"), (0, u "I"), (2, u "U"), (0, u "Ljdk/internal/misc/Unsafe;"), (8, u "BIG_ENDIAN"), (0, u "Z"), (8, u "LOG2_BYTE_BIT_SIZE"), (4, u "LOG2_ARRAY_INT_INDEX_SCALE"), (54, u "JLA"), (0, u "Ljdk/internal/access/JavaLangAccess;"), (11, u "LOG2_ARRAY_BOOLEAN_INDEX_SCALE"), (9, u "LOG2_ARRAY_BYTE_INDEX_SCALE"), (5, u "LOG2_ARRAY_CHAR_INDEX_SCALE"), (5, u "LOG2_ARRAY_SHORT_INDEX_SCALE"), (18, u "LOG2_ARRAY_FLOAT_INDEX_SCALE"), (24, u "LOG2_ARRAY_DOUBLE_INDEX_SCALE"), (89, u "T_BOOLEAN"), (2, u "T_CHAR"), (1, u "T_FLOAT"), (1, u "T_DOUBLE"), (1, u "T_BYTE"), (1, u "T_SHORT"), (1, u "T_INT"), (1, u "T_LONG"), (1, u "SOFT_MAX_ARRAY_LENGTH")] 83

def k14m0 : Method := { name := "<init>", desc := "()V", sig := { parameters := [], returnType := none }, accessFlags := 2, code := none }
/-- jdk/internal/util/ArraysSupport -/
def k14 : Class := { plain "jdk/internal/util/ArraysSupport" (some 0) with
  accessFlags := 33
  interfaces := #[]
  cf := some (fileOf pool14 21 #[] #[{ accessFlags := 2, nameIndex := 9, descriptorIndex := 19, attributes := #[] }] 33 16 #[] #[{ accessFlags := 24, nameIndex := 28, descriptorIndex := 29, attributes := #[] }, { accessFlags := 26, nameIndex := 38, descriptorIndex := 39, attributes := #[] }, { accessFlags := 25, nameIndex := 121, descriptorIndex := 25, attributes := #[] }, { accessFlags := 25, nameIndex := 131, descriptorIndex := 25, attributes := #[] }, { accessFlags := 25, nameIndex := 137, descriptorIndex := 25, attributes := #[] }, { accessFlags := 25, nameIndex := 143, descriptorIndex := 25, attributes := #[] }, { accessFlags := 25, nameIndex := 53, descriptorIndex := 25, attributes := #[] }, { accessFlags := 25, nameIndex := 24, descriptorIndex := 25, attributes := #[] }, { accessFlags := 25, nameIndex := 162, descriptorIndex := 25, attributes := #[] }, { accessFlags := 25, nameIndex := 187, descriptorIndex := 25, attributes := #[] }, { accessFlags := 26, nameIndex := 48, descriptorIndex := 25, attributes := #[] }, { accessFlags := 25, nameIndex := 277, descriptorIndex := 25, attributes := #[] }, { accessFlags := 25, nameIndex := 280, descriptorIndex := 25, attributes := #[] }, { accessFlags := 25, nameIndex := 282, descriptorIndex := 25, attributes := #[] }, { accessFlags := 25, nameIndex := 284, descriptorIndex := 25, attributes := #[] }, { accessFlags := 25, nameIndex := 286, descriptorIndex := 25, attributes := #[] }, { accessFlags := 25, nameIndex := 288, descriptorIndex := 25, attributes := #[] }, { accessFlags := 25, nameIndex := 290, descriptorIndex := 25, attributes := #[] }, { accessFlags := 25, nameIndex := 292, descriptorIndex := 25, attributes := #[] }, { accessFlags := 26, nameIndex := 108, descriptorIndex := 109, attributes := #[] }, { accessFlags := 25, nameIndex := 294, descriptorIndex := 25, attributes := #[] }])
  fields := #[{ name := "U", type := (.object "jdk/internal/misc/Unsafe"), accessFlags := 24, slot := 0, constantValue := 0 }, { name := "BIG_ENDIAN", type := .boolean, accessFlags := 26, slot := 1, constantValue := 0 }, { name := "LOG2_ARRAY_BOOLEAN_INDEX_SCALE", type := .int, accessFlags := 25, slot := 2, constantValue := 0 }, { name := "LOG2_ARRAY_BYTE_INDEX_SCALE", type := .int, accessFlags := 25, slot := 3, constantValue := 0 }, { name := "LOG2_ARRAY_CHAR_INDEX_SCALE", type := .int, accessFlags := 25, slot := 4, constantValue := 0 }, { name := "LOG2_ARRAY_SHORT_INDEX_SCALE", type := .int, accessFlags := 25, slot := 5, constantValue := 0 }, { name := "LOG2_ARRAY_INT_INDEX_SCALE", type := .int, accessFlags := 25, slot := 6, constantValue := 0 }, { name := "LOG2_ARRAY_LONG_INDEX_SCALE", type := .int, accessFlags := 25, slot := 7, constantValue := 0 }, { name := "LOG2_ARRAY_FLOAT_INDEX_SCALE", type := .int, accessFlags := 25, slot := 8, constantValue := 0 }, { name := "LOG2_ARRAY_DOUBLE_INDEX_SCALE", type := .int, accessFlags := 25, slot := 9, constantValue := 0 }, { name := "LOG2_BYTE_BIT_SIZE", type := .int, accessFlags := 26, slot := 10, constantValue := 0 }, { name := "T_BOOLEAN", type := .int, accessFlags := 25, slot := 11, constantValue := 0 }, { name := "T_CHAR", type := .int, accessFlags := 25, slot := 12, constantValue := 0 }, { name := "T_FLOAT", type := .int, accessFlags := 25, slot := 13, constantValue := 0 }, { name := "T_DOUBLE", type := .int, accessFlags := 25, slot := 14, constantValue := 0 }, { name := "T_BYTE", type := .int, accessFlags := 25, slot := 15, constantValue := 0 }, { name := "T_SHORT", type := .int, accessFlags := 25, slot := 16, constantValue := 0 }, { name := "T_INT", type := .int, accessFlags := 25, slot := 17, constantValue := 0 }, { name := "T_LONG", type := .int, accessFlags := 25, slot := 18, constantValue := 0 }, { name := "JLA", type := (.object "jdk/internal/access/JavaLangAccess"), accessFlags := 26, slot := 19, constantValue := 0 }, { name := "SOFT_MAX_ARRAY_LENGTH", type := .int, accessFlags := 25, slot := 20, constantValue := 0 }]
  methods := #[k14m0]
  instanceTypes := #[]
  staticTypes := #[(.object "jdk/internal/misc/Unsafe"), .boolean, .int, .int, .int, .int, .int, .int, .int, .int, .int, .int, .int, .int, .int, .int, .int, .int, .int, (.object "jdk/internal/access/JavaLangAccess"), .int]
  resolved := Array.replicate 378 none
  statics := none }

/-- the primitive byte -/
def k15 : Class := { plain "byte" none with kind := .primitive 'B', accessFlags := 0x411 }
/-- [B -/
def k16 : Class := { plain "[B" (some 0) with kind := .array 15 .byte, interfaces := #[11, 4], accessFlags := 1041 }

/-- the primitive char -/
def k17 : Class := { plain "char" none with kind := .primitive 'C', accessFlags := 0x411 }
/-- [C -/
def k18 : Class := { plain "[C" (some 0) with kind := .array 17 .char, interfaces := #[11, 4], accessFlags := 1041 }

/-- the primitive int -/
def k19 : Class := { plain "int" none with kind := .primitive 'I', accessFlags := 0x411 }
/-- [I -/
def k20 : Class := { plain "[I" (some 0) with kind := .array 19 .int, interfaces := #[11, 4], accessFlags := 1041 }

/-- [Lcom/example/scoped_authority/scopedauthority/Kind; -/
def k21 : Class := { plain "[Lcom/example/scoped_authority/scopedauthority/Kind;" (some 0) with kind := .array 6 (.object "com/example/scoped_authority/scopedauthority/Kind"), interfaces := #[11, 4], accessFlags := 1041 }

def heap : Heap := #[{ cls := 6, slots := #[.ref 4, .ref 5, .ref 6, .ref 3], vm := .statics 6 },
  { cls := 9, slots := #[.long 0, .int 1, .null, .int 0, .null, .int 0, .int 0], vm := .statics 9 },
  { cls := 13, slots := #[.null, .null, .null], vm := .statics 13 },
  { cls := 21, slots := #[.ref 4, .ref 5, .ref 6], vm := .none },
  { cls := 6, slots := #[.null, .int 0, .int 0, .ref 7, .null], vm := .none },
  { cls := 6, slots := #[.null, .int 0, .int 0, .ref 9, .null], vm := .none },
  { cls := 6, slots := #[.null, .int 0, .int 0, .ref 11, .null], vm := .none },
  { cls := 9, slots := #[.ref 8, .int 0, .int 0, .int 0], vm := .none },
  { cls := 16, slots := #[.int 100, .int 111, .int 109, .int 97, .int 105, .int 110], vm := .none },
  { cls := 9, slots := #[.ref 10, .int 0, .int 0, .int 0], vm := .none },
  { cls := 16, slots := #[.int 112, .int 101, .int 114, .int 115, .int 111, .int 110], vm := .none },
  { cls := 9, slots := #[.ref 12, .int 0, .int 0, .int 0], vm := .none },
  { cls := 16, slots := #[.int 111, .int 98, .int 106, .int 101, .int 99, .int 116], vm := .none }]
def classes : Array Class := #[k0, k1, k2, k3, k4, k5, k6, k7, k8, k9, k10, k11, k12, k13, k14, k15, k16, k17, k18, k19, k20, k21]
def interned : List (Array UInt16 × Addr) := []
def slotsUsed : Nat := 62
def theMethod : MethodId := ⟨1, 1⟩
def args0 : Array Value := #[.int 9]
def aboutOver (below : List Frame) : State where
  vm := { classes := classes, interned := interned.toArray }
  heap := heap
  slotsUsed := slotsUsed
  threads := #[{ frames := .invoking theMethod args0 :: below }]
def below0 : List Frame := [.native { method := ⟨0, 0⟩, args := #[] }]
def about1 : State := aboutOver below0
def p0 : Program := .bare "" "" ""
def e0 : Env := launch0.env 0 0 0
theorem w_frames : about1.frames = Frame.invoking theMethod args0 :: below0 := rfl
set_option maxRecDepth 65536 in
theorem w_args : argsFit about1.vm theMethod args0 = true := by decide +kernel
set_option maxRecDepth 65536 in
theorem w_heap : heapFits about1 = true := by decide +kernel
set_option maxRecDepth 65536 in
theorem w_runnable : about1.curStatus? = some .runnable := by decide +kernel
set_option maxRecDepth 65536 in
theorem w_alone : about1.alone = true := by decide +kernel
set_option maxRecDepth 65536 in
theorem w_named : about1.methodNamed? x = some theMethod := by decide +kernel
set_option maxRecDepth 65536 in
theorem w_hears : about1.hears theMethod below0 = true := by decide +kernel
set_option maxRecDepth 65536 in
theorem w_ripe : about1.ripe theMethod args0 below0 = true := by decide +kernel
theorem w_running : about1.status = .running := rfl
set_option maxRecDepth 65536 in
theorem w_room : about1.hasRoom e0.platform room_1 = true :=
  launch0.hasRoom_least _ room_1 (by decide +kernel) (by decide +kernel) (by decide +kernel) (by decide +kernel) (by decide +kernel) (by decide +kernel)
theorem allAtoms_all (ts : List Jvm.Cond) (a : Array Jvm.Value) (st : Jvm.State) : (allAtoms ts).before a st = ts.all (fun c => c.before a st) := by
  induction ts with
  | nil => rfl
  | cons c t ih =>
    show (Jvm.Cond.and c (allAtoms t)).before a st = _
    rw [Jvm.Cond.before_and, ih, List.all_cons]
def words1 : List Jvm.Cond := Jvm.Cond.code x code maxLocals ret :: tables_1
/-- a 'code' word, met by the world's own term for the bytes: nothing is compared byte by byte -/
theorem code_word {y : MethodName} {bytes : ByteArray} {mx : Nat} {rt : Option FieldType} {a : Array Value} {s : State} {m : MethodId} {meth : Method} {c : Code} (h1 : s.methodNamed? y = some m) (h2 : s.vm.method? m = some meth) (h3 : meth.code = some c) (h4 : c.code = bytes)
    (h5 : (c.maxLocals == mx && c.exceptionTable.isEmpty && decide (c.maxStack ≤ mostOperands) && decide (meth.sig.returnType = rt) && !meth.locks && decide (parseMethodDescriptor y.desc = some meth.sig)) = true) : (Jvm.Cond.code y bytes mx rt).before a s = true := by
  simp only [Bool.and_eq_true, beq_iff_eq, Bool.not_eq_true', decide_eq_true_eq] at h5
  obtain ⟨⟨⟨⟨⟨g1, g2⟩, g3⟩, g4⟩, g5⟩, g6⟩ := h5
  simp [Cond.before, Cond.holds, Cond.value, h1, h2, h3, h4, g1, g2, g3, g4, g5, g6]
def isCode : Jvm.Cond → Bool
  | .code _ _ _ _ => true
  | _ => false
theorem all_split {L : List Jvm.Cond} {P : Jvm.Cond → Bool} (h1 : L.all (fun c => isCode c || P c) = true) (h2 : ∀ c ∈ L.filter isCode, P c = true) : L.all P = true := by
  refine List.all_eq_true.mpr fun c hc => ?_
  have h := List.all_eq_true.mp h1 c hc
  rcases Bool.eq_false_or_eq_true (isCode c) with hi | hi
  · exact h2 c (List.mem_filter.mpr ⟨hc, hi⟩)
  · simpa [hi] using h
set_option maxRecDepth 65536 in
theorem w_c0 : (Jvm.Cond.code x code maxLocals ret).before args0 about1 = true := code_word (m := ⟨1, 1⟩) (meth := k1m1) (c := k1c1) (by decide +kernel) rfl rfl rfl (by decide +kernel)
set_option maxRecDepth 65536 in
theorem w_c1 : (Jvm.Cond.code ({ cls := "java/lang/String", name := "<init>", desc := "([C)V" } : Jvm.MethodName) jdk_42_method_3_code (2 : Nat) (Option.none : Option Jvm.ClassFile.FieldType)).before args0 about1 = true := code_word (m := ⟨9, 1⟩) (meth := k9m1) (c := k9c1) (by decide +kernel) rfl rfl rfl (by decide +kernel)
set_option maxRecDepth 65536 in
theorem w_c2 : (Jvm.Cond.code ({ cls := "java/lang/String", name := "<init>", desc := "([CIILjava/lang/Void;)V" } : Jvm.MethodName) jdk_42_method_149_code (6 : Nat) (Option.none : Option Jvm.ClassFile.FieldType)).before args0 about1 = true := code_word (m := ⟨9, 3⟩) (meth := k9m3) (c := k9c3) (by decide +kernel) rfl rfl rfl (by decide +kernel)
set_option maxRecDepth 65536 in
theorem w_c3 : (Jvm.Cond.code ({ cls := "java/lang/Object", name := "<init>", desc := "()V" } : Jvm.MethodName) object_method_1_code (1 : Nat) (Option.none : Option Jvm.ClassFile.FieldType)).before args0 about1 = true := code_word (m := ⟨0, 0⟩) (meth := k0m0) (c := k0c0) (by decide +kernel) rfl rfl rfl (by decide +kernel)
set_option maxRecDepth 65536 in
theorem w_c4 : (Jvm.Cond.code ({ cls := "java/lang/StringUTF16", name := "compress", desc := "([CII)[B" } : Jvm.MethodName) jdk_52_method_16_code (6 : Nat) (Option.some (Jvm.ClassFile.FieldType.array Jvm.ClassFile.FieldType.byte))).before args0 about1 = true := code_word (m := ⟨10, 2⟩) (meth := k10m2) (c := k10c2) (by decide +kernel) rfl rfl rfl (by decide +kernel)
set_option maxRecDepth 65536 in
theorem w_c5 : (Jvm.Cond.code ({ cls := "java/lang/StringUTF16", name := "compress", desc := "([CI[BII)I" } : Jvm.MethodName) jdk_52_method_21_code (7 : Nat) (Option.some Jvm.ClassFile.FieldType.int)).before args0 about1 = true := code_word (m := ⟨10, 3⟩) (meth := k10m3) (c := k10c3) (by decide +kernel) rfl rfl rfl (by decide +kernel)
set_option maxRecDepth 65536 in
theorem w_c6 : (Jvm.Cond.code ({ cls := "java/lang/StringUTF16", name := "coderFromArrayLen", desc := "([BI)B" } : Jvm.MethodName) jdk_52_method_15_code (2 : Nat) (Option.some Jvm.ClassFile.FieldType.byte)).before args0 about1 = true := code_word (m := ⟨10, 1⟩) (meth := k10m1) (c := k10c1) (by decide +kernel) rfl rfl rfl (by decide +kernel)
set_option maxRecDepth 65536 in
theorem w_c7 : (Jvm.Cond.code ({ cls := "com/example/scoped_authority/scopedauthority/Kind", name := "fromWord", desc := "(Ljava/lang/String;)Lcom/example/scoped_authority/scopedauthority/Kind;" } : Jvm.MethodName) prog_32_method_4_code (5 : Nat) (Option.some (Jvm.ClassFile.FieldType.object "com/example/scoped_authority/scopedauthority/Kind"))).before args0 about1 = true := code_word (m := ⟨6, 1⟩) (meth := k6m1) (c := k6c1) (by decide +kernel) rfl rfl rfl (by decide +kernel)
set_option maxRecDepth 65536 in
theorem w_c8 : (Jvm.Cond.code ({ cls := "com/example/scoped_authority/scopedauthority/Kind", name := "values", desc := "()[Lcom/example/scoped_authority/scopedauthority/Kind;" } : Jvm.MethodName) prog_32_method_1_code (0 : Nat) (Option.some (Jvm.ClassFile.FieldType.array (Jvm.ClassFile.FieldType.object "com/example/scoped_authority/scopedauthority/Kind")))).before args0 about1 = true := code_word (m := ⟨6, 0⟩) (meth := k6m0) (c := k6c0) (by decide +kernel) rfl rfl rfl (by decide +kernel)
set_option maxRecDepth 65536 in
theorem w_c9 : (Jvm.Cond.code ({ cls := "java/lang/String", name := "equals", desc := "(Ljava/lang/Object;)Z" } : Jvm.MethodName) jdk_42_method_66_code (3 : Nat) (Option.some Jvm.ClassFile.FieldType.boolean)).before args0 about1 = true := code_word (m := ⟨9, 2⟩) (meth := k9m2) (c := k9c2) (by decide +kernel) rfl rfl rfl (by decide +kernel)
set_option maxRecDepth 65536 in
theorem w_c10 : (Jvm.Cond.code ({ cls := "java/lang/StringLatin1", name := "equals", desc := "([B[B)Z" } : Jvm.MethodName) jdk_43_method_13_code (3 : Nat) (Option.some Jvm.ClassFile.FieldType.boolean)).before args0 about1 = true := code_word (m := ⟨12, 1⟩) (meth := k12m1) (c := k12c1) (by decide +kernel) rfl rfl rfl (by decide +kernel)
set_option maxRecDepth 65536 in
theorem w_c11 : (Jvm.Cond.code ({ cls := "com/example/scoped_authority/scopedauthority/Kind", name := "word", desc := "()Ljava/lang/String;" } : Jvm.MethodName) prog_32_method_5_code (1 : Nat) (Option.some (Jvm.ClassFile.FieldType.object "java/lang/String"))).before args0 about1 = true := code_word (m := ⟨6, 2⟩) (meth := k6m2) (c := k6c2) (by decide +kernel) rfl rfl rfl (by decide +kernel)
def codes1 : List Jvm.Cond := [Jvm.Cond.code x code maxLocals ret, Jvm.Cond.code ({ cls := "java/lang/String", name := "<init>", desc := "([C)V" } : Jvm.MethodName) jdk_42_method_3_code (2 : Nat) (Option.none : Option Jvm.ClassFile.FieldType), Jvm.Cond.code ({ cls := "java/lang/String", name := "<init>", desc := "([CIILjava/lang/Void;)V" } : Jvm.MethodName) jdk_42_method_149_code (6 : Nat) (Option.none : Option Jvm.ClassFile.FieldType), Jvm.Cond.code ({ cls := "java/lang/Object", name := "<init>", desc := "()V" } : Jvm.MethodName) object_method_1_code (1 : Nat) (Option.none : Option Jvm.ClassFile.FieldType), Jvm.Cond.code ({ cls := "java/lang/StringUTF16", name := "compress", desc := "([CII)[B" } : Jvm.MethodName) jdk_52_method_16_code (6 : Nat) (Option.some (Jvm.ClassFile.FieldType.array Jvm.ClassFile.FieldType.byte)), Jvm.Cond.code ({ cls := "java/lang/StringUTF16", name := "compress", desc := "([CI[BII)I" } : Jvm.MethodName) jdk_52_method_21_code (7 : Nat) (Option.some Jvm.ClassFile.FieldType.int), Jvm.Cond.code ({ cls := "java/lang/StringUTF16", name := "coderFromArrayLen", desc := "([BI)B" } : Jvm.MethodName) jdk_52_method_15_code (2 : Nat) (Option.some Jvm.ClassFile.FieldType.byte), Jvm.Cond.code ({ cls := "com/example/scoped_authority/scopedauthority/Kind", name := "fromWord", desc := "(Ljava/lang/String;)Lcom/example/scoped_authority/scopedauthority/Kind;" } : Jvm.MethodName) prog_32_method_4_code (5 : Nat) (Option.some (Jvm.ClassFile.FieldType.object "com/example/scoped_authority/scopedauthority/Kind")), Jvm.Cond.code ({ cls := "com/example/scoped_authority/scopedauthority/Kind", name := "values", desc := "()[Lcom/example/scoped_authority/scopedauthority/Kind;" } : Jvm.MethodName) prog_32_method_1_code (0 : Nat) (Option.some (Jvm.ClassFile.FieldType.array (Jvm.ClassFile.FieldType.object "com/example/scoped_authority/scopedauthority/Kind"))), Jvm.Cond.code ({ cls := "java/lang/String", name := "equals", desc := "(Ljava/lang/Object;)Z" } : Jvm.MethodName) jdk_42_method_66_code (3 : Nat) (Option.some Jvm.ClassFile.FieldType.boolean), Jvm.Cond.code ({ cls := "java/lang/StringLatin1", name := "equals", desc := "([B[B)Z" } : Jvm.MethodName) jdk_43_method_13_code (3 : Nat) (Option.some Jvm.ClassFile.FieldType.boolean), Jvm.Cond.code ({ cls := "com/example/scoped_authority/scopedauthority/Kind", name := "word", desc := "()Ljava/lang/String;" } : Jvm.MethodName) prog_32_method_5_code (1 : Nat) (Option.some (Jvm.ClassFile.FieldType.object "java/lang/String"))]
set_option maxRecDepth 65536 in
theorem codes_eq : words1.filter isCode = codes1 := rfl
theorem w_codes : ∀ c ∈ words1.filter isCode, c.before args0 about1 = true := by
  rw [codes_eq]
  intro c hc
  simp only [codes1, List.mem_cons, List.not_mem_nil, or_false] at hc
  rcases hc with rfl | rfl | rfl | rfl | rfl | rfl | rfl | rfl | rfl | rfl | rfl | rfl
  · exact w_c0
  · exact w_c1
  · exact w_c2
  · exact w_c3
  · exact w_c4
  · exact w_c5
  · exact w_c6
  · exact w_c7
  · exact w_c8
  · exact w_c9
  · exact w_c10
  · exact w_c11
set_option maxRecDepth 65536 in
theorem w_t1 : (words1.take 24).all (fun c => isCode c || c.before args0 about1) = true := by decide +kernel
set_option maxRecDepth 65536 in
theorem w_t2 : ((words1.drop 24).take 24).all (fun c => isCode c || c.before args0 about1) = true := by decide +kernel
set_option maxRecDepth 65536 in
theorem w_t3 : (((words1.drop 24).drop 24).take 24).all (fun c => isCode c || c.before args0 about1) = true := by decide +kernel
set_option maxRecDepth 65536 in
theorem w_t4 : (((words1.drop 24).drop 24).drop 24).all (fun c => isCode c || c.before args0 about1) = true := by decide +kernel
theorem w_tables : (allAtoms (Jvm.Cond.code x code maxLocals ret :: tables_1)).before args0 about1 = true := by
  rw [allAtoms_all]
  show words1.all (fun c => c.before args0 about1) = true
  refine all_split ?_ w_codes
  rw [← List.take_append_drop 24 words1, List.all_append, w_t1, ← List.take_append_drop 24 (words1.drop 24), List.all_append, w_t2, ← List.take_append_drop 24 ((words1.drop 24).drop 24), List.all_append, w_t3, w_t4]
  rfl
set_option maxRecDepth 65536 in
theorem w_rest : rest_1_c.before args0 about1 = true := by decide +kernel
set_option maxRecDepth 65536 in
theorem w_case : (Jvm.Cond.and given_1 narrow_1).before args0 about1 = true := by decide +kernel
theorem w_applies : (headSpec (Jvm.Cond.code x code maxLocals ret :: tables_1) room_1).applies x e0.platform about1 = true :=
  (Spec.applies_iff w_frames).mpr ⟨w_running, w_runnable, w_alone, w_named, w_hears, w_ripe, w_room, w_tables⟩
theorem atStart : AtStart classFile x code maxLocals ret World_1 tables_1 room_1 Calls_1 rest_1 Pre_1 launch0 p0 e0 about1 theMethod args0 below0 :=
  ⟨lists_1, trivial, launch0.admits_env _ _ _, launch0.least_env, fairChoices_fair.cas, fairChoices_fair.clock, w_frames, w_args, w_heap, w_applies, trivial, w_rest, w_case⟩
end start1
theorem witness_1 : WitnessClaimed_1 := ⟨start1.p0, start1.e0, start1.about1, start1.theMethod, start1.args0, start1.below0, start1.atStart⟩
end Jvm.Pilot.@@N@@
